/-
  A new OffsetFetchRequest is written as the defaults are. Conditions: none.
-/
import Derived.Test.YtbogepbfbplndaaNw
import Derived.Test.YtbogepbfbplndaaUu
import Derived.Test.YtbogepbfbplndaaNl
namespace Go.Proofs.Ytbogepbfbplndaa.OffsetFetchRequest
open Go.Proofs.Ytbogepbfbplndaa
open Go.RowKit
open Kz
def fss1 : List F := [⟨8, 0, -1, -1, -1, 0, 0, []⟩, ⟨11, 0, -1, -1, -1, 0, 3, []⟩]
def fss2s3 : List F := [⟨8, 8, 9, -1, -1, 0, 0, []⟩, ⟨7, 10, -1, -1, -1, 0, 0, []⟩, ⟨11, 0, -1, -1, -1, 0, 3, []⟩]
def fss2 : List F := [⟨8, 0, -1, -1, -1, 0, 0, []⟩, ⟨8, 9, -1, 9, -1, 0, 0, []⟩, ⟨3, 9, -1, -1, -1, -1, 0, []⟩, ⟨11, 0, -1, -1, -1, 0, 10, fss2s3⟩]
def fs : List F := [⟨8, 0, 7, -1, -1, 0, 0, []⟩, ⟨11, 0, 7, 2, -1, 0, 10, fss1⟩, ⟨11, 8, -1, -1, -1, 0, 10, fss2⟩, ⟨0, 7, -1, -1, -1, 0, 0, []⟩]
def msg : M := ⟨fs, 6⟩
def gss1 : List F := [⟨8, 0, -1, -1, -1, 0, 0, []⟩, ⟨11, 0, -1, -1, -1, 0, 3, []⟩]
def gss2s3 : List F := [⟨8, 8, 9, -1, -1, 0, 0, []⟩, ⟨7, 10, -1, -1, -1, 0, 0, []⟩, ⟨11, 0, -1, -1, -1, 0, 3, []⟩]
def gss2 : List F := [⟨8, 0, -1, -1, -1, 0, 0, []⟩, ⟨8, 9, -1, 9, -1, 0, 0, []⟩, ⟨3, 9, -1, -1, -1, -1, 0, []⟩, ⟨11, 0, -1, 0, -1, 0, 10, gss2s3⟩]
def gs : List F := [⟨8, 0, 7, -1, -1, 0, 0, []⟩, ⟨11, 0, 7, 2, -1, 0, 10, gss1⟩, ⟨11, 8, -1, -1, -1, 0, 10, gss2⟩, ⟨0, 7, -1, -1, -1, 0, 0, []⟩]
def msgI : M := ⟨gs, 6⟩
def sets_OffsetFetchRequest : List (Nat × Value) := []
theorem def_OffsetFetchRequest : DefSets 18 6 sets_OffsetFetchRequest := defSets Try.func18 rfl rfl (by kernel_rfl) (by kernel_rfl) DS.skip
theorem writes' : WritesMsg TagRep 16 msgI true := by
  refine writesMsg_flex (E := ⟨336, 1, 5, some 6⟩) (res := 4) rfl (by decide) rfl Try.func16 rfl (by kernel_rfl) (by kernel_rfl) (by kernel_rfl) (by decide) (sconst (by kernel_rfl)) (sload (by kernel_rfl) (by kernel_rfl) (by kernel_rfl)) (smove (by kernel_rfl)) (scmpV (by kernel_rfl)) (smove (by kernel_rfl)) (by kernel_rfl) (by kernel_rfl) (by kernel_rfl) (by kernel_rfl) (fun v hv => ?_)
  have hft : msgI.isFlex v = true → true = true := fun _ => rfl
  refine ApTE.part (by kernel_rfl) ?_
  refine ApTE.cons hft stable_tagRep (ApV.guardV (testW_range (by kernel_rfl) (by kernel_rfl) (by kernel_rfl)) (by simp [F.has]) (by decide) (by kernel_rfl) (fun _ => (ApV.of (sload (by kernel_rfl) (by kernel_rfl) (by kernel_rfl)) (FA.text (Av.flexV (textB 2) rfl (by kernel_rfl) (by kernel_rfl) (Av.call wr_CompactString (by kernel_rfl) (by kernel_rfl)) (Av.call wr_String (by kernel_rfl) (by kernel_rfl)))) (by kernel_rfl) (by kernel_rfl)))) (by kernel_rfl) ?_
  refine ApTE.cons hft stable_tagRep (ApV.guardV (testW_range (by kernel_rfl) (by kernel_rfl) (by kernel_rfl)) (by simp [F.has]) (by decide) (by kernel_rfl) (fun _ => (ApV.of (sload (by kernel_rfl) (by kernel_rfl) (by kernel_rfl)) (FA.listG (e := 61) (sz := 3) hft stable_tagRep rfl (by kernel_rfl) (Av.geqC (testW_geq (by kernel_rfl) (by kernel_rfl)) (by kernel_rfl) (fun _ => (Av.lenXF rfl (by kernel_rfl) (by kernel_rfl) (Av.lenX (e := 61) wl_CompactNullableArrayLen (by kernel_rfl) (by kernel_rfl) (by kernel_rfl)) (Av.lenX (e := 61) wl_NullableArrayLen (by kernel_rfl) (by kernel_rfl) (by kernel_rfl)))) (fun _ => (Av.lenF' rfl (by kernel_rfl) (by kernel_rfl) (Av.lenC (Av.len (e := 61) wl_CompactArrayLen (by kernel_rfl) (by kernel_rfl) (by kernel_rfl))) (Av.lenC (Av.len (e := 61) wl_ArrayLen (by kernel_rfl) (by kernel_rfl) (by kernel_rfl)))))) (ElA.struct (e := 61) (by kernel_rfl) (by kernel_rfl) (by kernel_rfl) (by kernel_rfl) (by kernel_rfl) (ApTl.part (by kernel_rfl) (ApTl.cons hft stable_tagRep (ApV.always (ApV.of (sload (by kernel_rfl) (by kernel_rfl) (by kernel_rfl)) (FA.text (Av.flexV (textB 2) rfl (by kernel_rfl) (by kernel_rfl) (Av.call wr_CompactString (by kernel_rfl) (by kernel_rfl)) (Av.call wr_String (by kernel_rfl) (by kernel_rfl)))) (by kernel_rfl) (by kernel_rfl)) (by simp [F.has, hv])) (by kernel_rfl) (ApTl.cons hft stable_tagRep (ApV.always (ApV.of (sload (by kernel_rfl) (by kernel_rfl) (by kernel_rfl)) (FA.listG (e := 21) (sz := 1) hft stable_tagRep rfl (by kernel_rfl) (Av.lenF rfl (by kernel_rfl) (by kernel_rfl) (Av.lenC (Av.len (e := 21) wl_CompactArrayLen (by kernel_rfl) (by kernel_rfl) (by kernel_rfl))) (Av.lenC (Av.len (e := 21) wl_ArrayLen (by kernel_rfl) (by kernel_rfl) (by kernel_rfl)))) (ElA.prim (e := 21) (by kernel_rfl) (by kernel_rfl) (by kernel_rfl) (by kernel_rfl) (by kernel_rfl) (by kernel_rfl) (by kernel_rfl) (FA.int (by kernel_rfl) (Av.call wr_Int32 (by kernel_rfl) (by kernel_rfl)))) (by kernel_rfl) (fun t hl _ => FA.list_w (by decide) t hl) (by kernel_rfl) (by kernel_rfl) (by kernel_rfl) (by kernel_rfl) (by kernel_rfl) (by kernel_rfl)) (by kernel_rfl) (by kernel_rfl)) (by simp [F.has, hv])) (by kernel_rfl) (ApTl.tagsE rfl rfl rfl rfl rfl rfl (by kernel_rfl) (by kernel_rfl) (by kernel_rfl) (by kernel_rfl) (by kernel_rfl) (by kernel_rfl) (by kernel_rfl)))))) (by kernel_rfl) (fun t hl h0 => FA.list_wF (by decide) t hl (fun hx => (h0 hx).2)) (by kernel_rfl) (by kernel_rfl) (by kernel_rfl) (by kernel_rfl) (by kernel_rfl) (by kernel_rfl)) (by kernel_rfl) (by kernel_rfl)))) (by kernel_rfl) ?_
  refine ApTE.cons hft stable_tagRep (ApV.guardV (testW_geq (by kernel_rfl) (by kernel_rfl)) (by simp [F.has]) (by decide) (by kernel_rfl) (fun _ => (ApV.of (sload (by kernel_rfl) (by kernel_rfl) (by kernel_rfl)) (FA.listG (e := 69) (sz := 5) hft stable_tagRep rfl (by kernel_rfl) (Av.lenF rfl (by kernel_rfl) (by kernel_rfl) (Av.lenC (Av.len (e := 69) wl_CompactArrayLen (by kernel_rfl) (by kernel_rfl) (by kernel_rfl))) (Av.lenC (Av.len (e := 69) wl_ArrayLen (by kernel_rfl) (by kernel_rfl) (by kernel_rfl)))) (ElA.struct (e := 69) (by kernel_rfl) (by kernel_rfl) (by kernel_rfl) (by kernel_rfl) (by kernel_rfl) (ApTl.part (by kernel_rfl) (ApTl.cons hft stable_tagRep (ApV.always (ApV.of (sload (by kernel_rfl) (by kernel_rfl) (by kernel_rfl)) (FA.text (Av.flexV (textB 2) rfl (by kernel_rfl) (by kernel_rfl) (Av.call wr_CompactString (by kernel_rfl) (by kernel_rfl)) (Av.call wr_String (by kernel_rfl) (by kernel_rfl)))) (by kernel_rfl) (by kernel_rfl)) (by simp [F.has, hv])) (by kernel_rfl) (ApTl.cons hft stable_tagRep (ApV.guardV (testW_geq (by kernel_rfl) (by kernel_rfl)) (by simp [F.has]) (by decide) (by kernel_rfl) (fun hq => (ApV.of (sload (by kernel_rfl) (by kernel_rfl) (by kernel_rfl)) (FA.ntext (by kernel_rfl) (by simp [F.has] at hq; omega) (Av.flexV ntextB rfl (by kernel_rfl) (by kernel_rfl) (Av.call wr_CompactNullableString (by kernel_rfl) (by kernel_rfl)) (Av.call wr_NullableString (by kernel_rfl) (by kernel_rfl)))) (by kernel_rfl) (by kernel_rfl)))) (by kernel_rfl) (ApTl.cons hft stable_tagRep (ApV.guardV (testW_geq (by kernel_rfl) (by kernel_rfl)) (by simp [F.has]) (by decide) (by kernel_rfl) (fun _ => (ApV.of (sload (by kernel_rfl) (by kernel_rfl) (by kernel_rfl)) (FA.int (by kernel_rfl) (Av.call wr_Int32 (by kernel_rfl) (by kernel_rfl))) (by kernel_rfl) (by kernel_rfl)))) (by kernel_rfl) (ApTl.cons hft stable_tagRep (ApV.always (ApV.of (sload (by kernel_rfl) (by kernel_rfl) (by kernel_rfl)) (FA.listG (e := 74) (sz := 19) hft stable_tagRep rfl (by kernel_rfl) (Av.lenXF rfl (by kernel_rfl) (by kernel_rfl) (Av.lenX (e := 74) wl_CompactNullableArrayLen (by kernel_rfl) (by kernel_rfl) (by kernel_rfl)) (Av.lenX (e := 74) wl_NullableArrayLen (by kernel_rfl) (by kernel_rfl) (by kernel_rfl))) (ElA.struct (e := 74) (by kernel_rfl) (by kernel_rfl) (by kernel_rfl) (by kernel_rfl) (by kernel_rfl) (ApTl.part (by kernel_rfl) (ApTl.cons hft stable_tagRep (ApV.guardV (testW_range (by kernel_rfl) (by kernel_rfl) (by kernel_rfl)) (by simp [F.has]) (by decide) (by kernel_rfl) (fun _ => (ApV.of (sload (by kernel_rfl) (by kernel_rfl) (by kernel_rfl)) (FA.text (Av.flexV (textB 2) rfl (by kernel_rfl) (by kernel_rfl) (Av.call wr_CompactString (by kernel_rfl) (by kernel_rfl)) (Av.call wr_String (by kernel_rfl) (by kernel_rfl)))) (by kernel_rfl) (by kernel_rfl)))) (by kernel_rfl) (ApTl.cons hft stable_tagRep (ApV.guardV (testW_geq (by kernel_rfl) (by kernel_rfl)) (by simp [F.has]) (by decide) (by kernel_rfl) (fun _ => (ApV.sixteen (by kernel_rfl) (by kernel_rfl) (by kernel_rfl)))) (by kernel_rfl) (ApTl.cons hft stable_tagRep (ApV.always (ApV.of (sload (by kernel_rfl) (by kernel_rfl) (by kernel_rfl)) (FA.listG (e := 21) (sz := 1) hft stable_tagRep rfl (by kernel_rfl) (Av.lenF rfl (by kernel_rfl) (by kernel_rfl) (Av.lenC (Av.len (e := 21) wl_CompactArrayLen (by kernel_rfl) (by kernel_rfl) (by kernel_rfl))) (Av.lenC (Av.len (e := 21) wl_ArrayLen (by kernel_rfl) (by kernel_rfl) (by kernel_rfl)))) (ElA.prim (e := 21) (by kernel_rfl) (by kernel_rfl) (by kernel_rfl) (by kernel_rfl) (by kernel_rfl) (by kernel_rfl) (by kernel_rfl) (FA.int (by kernel_rfl) (Av.call wr_Int32 (by kernel_rfl) (by kernel_rfl)))) (by kernel_rfl) (fun t hl _ => FA.list_w (by decide) t hl) (by kernel_rfl) (by kernel_rfl) (by kernel_rfl) (by kernel_rfl) (by kernel_rfl) (by kernel_rfl)) (by kernel_rfl) (by kernel_rfl)) (by simp [F.has, hv])) (by kernel_rfl) (ApTl.tagsE rfl rfl rfl rfl rfl rfl (by kernel_rfl) (by kernel_rfl) (by kernel_rfl) (by kernel_rfl) (by kernel_rfl) (by kernel_rfl) (by kernel_rfl))))))) (by kernel_rfl) (fun t hl h0 => FA.list_wN (by decide) (by omega) t hl (fun hx => (h0 hx).2)) (by kernel_rfl) (by kernel_rfl) (by kernel_rfl) (by kernel_rfl) (by kernel_rfl) (by kernel_rfl)) (by kernel_rfl) (by kernel_rfl)) (by simp [F.has, hv])) (by kernel_rfl) (ApTl.tagsE rfl rfl rfl rfl rfl rfl (by kernel_rfl) (by kernel_rfl) (by kernel_rfl) (by kernel_rfl) (by kernel_rfl) (by kernel_rfl) (by kernel_rfl)))))))) (by kernel_rfl) (fun t hl _ => FA.list_w (by decide) t hl) (by kernel_rfl) (by kernel_rfl) (by kernel_rfl) (by kernel_rfl) (by kernel_rfl) (by kernel_rfl)) (by kernel_rfl) (by kernel_rfl)))) (by kernel_rfl) ?_
  refine ApTE.cons hft stable_tagRep (ApV.guardV (testW_geq (by kernel_rfl) (by kernel_rfl)) (by simp [F.has]) (by decide) (by kernel_rfl) (fun _ => (ApV.of (sload (by kernel_rfl) (by kernel_rfl) (by kernel_rfl)) (FA.bool (Av.call wr_Bool (by kernel_rfl) (by kernel_rfl))) (by kernel_rfl) (by kernel_rfl)))) (by kernel_rfl) ?_
  exact ApTE.last (ApTl.tagsE rfl rfl rfl rfl rfl rfl (by kernel_rfl) (by kernel_rfl) (by kernel_rfl) (by kernel_rfl) (by kernel_rfl) (by kernel_rfl) (by kernel_rfl)) (scopy (by kernel_rfl))
def init : Array Value := setArr #[.int .i16 0, .string ⟨#[]⟩, .slice none 0 0, .slice none 0 0, .bool false, .map none] 0 sets_OffsetFetchRequest
theorem news : NewsMsg 11 54 init := newsMsg (N := 3) Try.func11 rfl rfl rfl (by kernel_rfl) (by kernel_rfl) (by kernel_rfl) (fun _ => by kernel_rfl) def_OffsetFetchRequest
theorem setsV : SetsVersion 15 := setsVersion Try.func15 rfl rfl (by kernel_rfl) (by kernel_rfl) (by kernel_rfl) (by kernel_rfl) (by kernel_rfl)
def tn : T := .mk 0 [] false (gs.map newT) []
def td : T := .mk 0 [] false (fs.map dflT) []
theorem wr_eq (v : Int) (h0 : 0 ≤ v) (h1 : v < 11) : write msgI v tn = write msg v td := by
  have h : v = 0 ∨ v = 1 ∨ v = 2 ∨ v = 3 ∨ v = 4 ∨ v = 5 ∨ v = 6 ∨ v = 7 ∨ v = 8 ∨ v = 9 ∨ v = 10 := by omega
  rcases h with rfl | rfl | rfl | rfl | rfl | rfl | rfl | rfl | rfl | rfl | rfl
  all_goals exact eq_of_beq (by kernel_rfl)
theorem wr_len (v : Int) (h0 : 0 ≤ v) (h1 : v < 11) : (write msg v td).length ≤ 1000 := by
  have h : v = 0 ∨ v = 1 ∨ v = 2 ∨ v = 3 ∨ v = 4 ∨ v = 5 ∨ v = 6 ∨ v = 7 ∨ v = 8 ∨ v = 9 ∨ v = 10 := by omega
  rcases h with rfl | rfl | rfl | rfl | rfl | rfl | rfl | rfl | rfl | rfl | rfl
  all_goals exact Nat.le_of_ble_eq_true (by kernel_rfl)
theorem init_cells : init.toList = .int .i16 0 :: (gs.flatMap dfc ++ [.map none]) := by kernel_rfl
theorem okNew : fs.all newOkF = true := by kernel_rfl
theorem okNewI : gs.all newOkF = true := by kernel_rfl
set_option maxRecDepth 8000 in
set_option maxHeartbeats 1000000 in
theorem newv (w : World) (v : Int) (h0 : 0 ≤ v) (h1 : v < 11) : Calls Try.prog 7 #[.int .i64 v] w fun e w' => ∃ u, e = .returned u ∧ OwnB w' w.heap.size u (write msg v td) ∧ Below w.heap.size w w' := by
  have hwr : IntKind.wrap .i16 v = v := by rw [wrap_i16]; omega
  go_enter Try.func7, Try.ntmps7
  go_wp2_with fail
  refine (news.2 _).mono ?_
  rintro e w1 ⟨rfl, hw1⟩
  have hrow1 : w1.heap[w.heap.size]? = some (.cells init 54 (0, 0)) := by rw [hw1]; exact alloc_new w _
  have hb1 : Below w.heap.size w w1 := by rw [hw1]; exact below_push w.heap.size (Nat.le_refl _) _ rfl
  have hs1 : w1.heap.size = w.heap.size + 1 := by rw [hw1]; simp
  clear hw1
  go_wp2_with fail
  refine (setsV.2 w1 w.heap.size v init _ hrow1 (by decide)).mono ?_
  rintro e w2 ⟨⟨u, rfl⟩, hw2⟩
  have hrow2 : w2.heap[w.heap.size]? = some (.cells (init.setIfInBounds 0 (.int .i16 v)) 54 (0, 0)) := by rw [hw2]; exact heap_setCell_row hrow1
  have hs2 : w2.heap.size = w.heap.size + 1 := by rw [hw2, ← hs1]; simp [World.setCell]
  have hb2 : Below w.heap.size w w2 := by rw [hw2]; exact hb1.setCell (p := ⟨w.heap.size, 0, none⟩) (Nat.le_refl _) _
  clear hw2 hrow1 hb1 hs1
  have hc0 : w2.cell? ⟨w.heap.size, 0, none⟩ = some (.int .i16 v) := by rw [cell_of_row _ _ _ _ _ _ hrow2]; rfl
  have hcs : ∀ j, w2.cell? ⟨w.heap.size, 1 + j, none⟩ = (gs.flatMap dfc ++ [.map none])[j]? := fun j => by
    rw [cell_of_row _ _ _ _ _ _ hrow2, Array.getElem?_setIfInBounds_ne (by omega), ← Array.getElem?_toList, init_cells, Nat.add_comm 1 j, List.getElem?_cons_succ]
  have hl : (write msgI v tn).length ≤ 1000 := by rw [wr_eq v h0 h1]; exact wr_len v h0 h1
  have hwt := writes'.2 (w.heap.size + 1) (fun _ => False) w2 v w.heap.size [] (.slice none 0 0) tn h0 (OwnB.nil _ _) (by omega) (fun _ h => h.elim) (by omega) hc0 (repP_new (fs := gs) w2 _ okNewI hcs) (newT_fit gs (by decide)) (by simp only [lim2, List.length_nil]; omega)
  rw [List.nil_append, wr_eq v h0 h1] at hwt
  have HW := Lib.hid hwt
  have HB := Lib.hid hb2
  clear hcs hc0 hl hwt hb2 hrow2
  go_wp2_with fail
  refine HW.out.mono ?_
  rintro e w3 ⟨u3, rfl, ho3, hb3⟩
  have HO := Lib.hid ho3
  have HC := Lib.hid hb3
  clear ho3 hb3
  go_wp2
  go_ret
  exact ⟨u3, rfl, HO.out.low (base' := w.heap.size) (by omega), HB.out.trans (HC.out.lower (m := w.heap.size) (by omega))⟩
theorem maxv (w : World) : Calls Try.prog 4 #[] w fun e w' => e = .returned (.int .i64 10) ∧ Below w.heap.size w w' := by
  go_enter Try.func4, Try.ntmps4
  go_wp2_with (first
    | (go_at_call 11; refine (news.2 _).mono ?_; rintro e w' ⟨rfl, rfl⟩)
    | go_in)
  all_goals go_ret
  exact ⟨rfl, rfl, rfl, rfl, by simp, fun k hk => alloc_old w _ k hk⟩

set_option maxRecDepth 8000 in
set_option maxHeartbeats 1000000 in
theorem sp_fss1 : PartsOk 13 fss1 := by
  intro w
  go_enter Try.func13, Try.ntmps13
  go_wp2
  go_ret
  exact ⟨_, rfl, FL.of_row (fs := fss1) (alloc_last _ _) (by rfl) (ss := List.replicate 2 (.slice none 0 0)) (by rfl) (by kernel_rfl) (FL.none_within (by kernel_rfl) rfl) (by rfl), below_push _ (Nat.le_refl _) _ rfl⟩
set_option maxRecDepth 8000 in
set_option maxHeartbeats 1000000 in
theorem sp_fss2s3 : PartsOk 19 fss2s3 := by
  intro w
  go_enter Try.func19, Try.ntmps19
  go_wp2
  go_ret
  exact ⟨_, rfl, FL.of_row (fs := fss2s3) (alloc_last _ _) (by rfl) (ss := List.replicate 3 (.slice none 0 0)) (by rfl) (by kernel_rfl) (FL.none_within (by kernel_rfl) rfl) (by rfl), below_push _ (Nat.le_refl _) _ rfl⟩
set_option maxRecDepth 8000 in
set_option maxHeartbeats 1000000 in
theorem sp_fss2 : PartsOk 14 fss2 := by
  intro w
  go_enter Try.func14, Try.ntmps14
  go_wp2_with fail
  refine (sp_fss2s3 _).mono ?_
  rintro e z0 ⟨x0, rfl, hf0, hb0⟩
  obtain ⟨p0, c0, rfl⟩ := hf0.len
  have F0 := Lib.hid hf0
  have B0 := Lib.hid hb0
  clear hf0 hb0
  go_wp2
  go_ret
  have hfl : FLs z0 fss2 [.slice none 0 0, .slice none 0 0, .slice none 0 0, .slice p0 (List.length fss2s3) c0] := (.cons .nil (.cons .nil (.cons .nil (.cons F0.out .nil))))
  exact ⟨_, rfl, FL.of_row (fs := fss2) (alloc_last _ _) (by rfl) (ss := [.slice none 0 0, .slice none 0 0, .slice none 0 0, .slice p0 (List.length fss2s3) c0]) (by rfl) (by kernel_rfl) (FLs.get (hfl.stay (below_push _ (Nat.le_refl _) _ rfl))) (by rfl), below_box B0.out (Nat.le_refl _)⟩
set_option maxRecDepth 8000 in
set_option maxHeartbeats 1000000 in
theorem spec : SpecOk 5 msg := by
  intro w
  go_enter Try.func5, Try.ntmps5
  go_wp2_with fail
  refine (sp_fss1 _).mono ?_
  rintro e z0 ⟨x0, rfl, hf0, hb0⟩
  obtain ⟨p0, c0, rfl⟩ := hf0.len
  have F0 := Lib.hid hf0
  have B0 := Lib.hid ((below_push w.heap.size (Nat.le_refl _) (.cells #[.slice none 0 0, iv 0] 25) rfl).trans (hb0.lower (m := w.heap.size) (by simp)))
  have HX : Hid (z0.heap[w.heap.size]? = some (.cells #[.slice none 0 0, iv 0] 25 (0, 0))) := Lib.hid ((hb0.block _ (by simp)).trans (alloc_last w _))
  clear hf0 hb0
  go_wp2_with fail
  refine (sp_fss2 _).mono ?_
  rintro e z1 ⟨x1, rfl, hf1, hb1⟩
  obtain ⟨p1, c1, rfl⟩ := hf1.len
  have F1 := Lib.hid hf1
  have B1 := Lib.hid (B0.out.trans (hb1.lower (m := w.heap.size) B0.out.size))
  have F0 := Lib.hid (F0.out.stay hb1)
  have HX := Lib.hid ((hb1.block _ (Array.getElem?_eq_some_iff.1 HX.out).1).trans HX.out)
  clear hf1 hb1
  have y0 : z1.cell? ⟨w.heap.size, 0, none⟩ = some (.slice none 0 0) := cell_of_row _ _ _ _ _ _ HX.out
  have y1 : z1.cell? ⟨w.heap.size, 1, none⟩ = some (iv 0) := cell_of_row _ _ _ _ _ _ HX.out
  have g0 : z1.frozen? ⟨w.heap.size, 0, none⟩ = false := frozen_of_row _ _ _ _ _ HX.out
  have g1 : z1.frozen? ⟨w.heap.size, 1, none⟩ = false := frozen_of_row _ _ _ _ _ HX.out
  have hlt : w.heap.size < z1.heap.size := (Array.getElem?_eq_some_iff.1 HX.out).1
  go_wp2
  have hfl : FLs z1 fs [.slice none 0 0, .slice p0 (List.length fss1) c0, .slice p1 (List.length fss2) c1, .slice none 0 0] := (.cons .nil (.cons F0.out (.cons F1.out (.cons .nil .nil))))
  obtain ⟨k1, k2, k3⟩ := msg_end (m := msg) (ty := 43) (n := 4) (x := 6) B1.out HX.out hfl (by kernel_rfl) (by rfl) (by rfl) (by rfl) (by rfl)
  have hl2 : w.heap.size < (z1.setCell ⟨w.heap.size, 0, none⟩ (.slice (some ⟨z1.heap.size, 0, none⟩) 4 4)).heap.size := by simpa [World.setCell] using hlt
  rw [World.setCell_alloc_past _ _ _ _ hlt, World.setCell_alloc_past _ _ _ _ hl2] at k1 k2 k3
  exact ⟨rfl, _, (results_cell1 (p := 0) (ty := 25) (by kernel_rfl) _ _ _).trans k1, _, rfl, k2, k3⟩

set_option maxRecDepth 8000 in
set_option maxHeartbeats 4000000 in
theorem walk (w : World) (n : Int) (h0 : 0 ≤ n) (h1' : n < 256) :
    Calls Try.prog 3 #[.int .u8 n] w fun e w' => e = .returned (.bool true) ∧ Below w.heap.size w w' := by
  obtain ⟨V, hV⟩ : ∃ V : Int, n % ((10 : Int) + 1) = V := ⟨_, rfl⟩
  have hV0 : 0 ≤ V := by rw [← hV]; exact Int.emod_nonneg _ (by decide)
  have hV1 : V < 11 := by have := Int.emod_lt_of_pos n (show (0 : Int) < (10 : Int) + 1 by decide); rw [hV] at this; omega
  obtain ⟨B, hB⟩ : ∃ B, write msg V td = B := ⟨_, rfl⟩
  have hBl : B.length ≤ 1000 := by rw [← hB]; exact wr_len V hV0 hV1
  have HN : Hid (∀ W : World, Calls Try.prog 7 #[.int .i64 V] W fun e w' => ∃ u, e = .returned u ∧ OwnB w' W.heap.size u B ∧ Below W.heap.size W w') := Lib.hid fun W => by rw [← hB]; exact newv W V hV0 hV1
  have HR : Hid (∀ (W : World) (mv tv : Value), MsgV W mv msg → TreeV W tv td → Calls Try.prog 9 #[mv, iv V, tv] W fun e w' => ∃ u, e = .returned u ∧ OwnB w' W.heap.size u B ∧ Below W.heap.size W w') := Lib.hid fun W mv tv h1 h2 => by
    have := Write_any W mv tv msg V td h1 h2 (by kernel_rfl) (by rw [hB]; simp only [lim]; omega)
    rw [hB] at this
    exact this
  have HL := Lib.hid hBl
  clear hB hBl
  go_enter Try.func3, Try.ntmps3
  go_wp2_with fail
  refine (maxv w).mono ?_
  rintro e w2 ⟨rfl, hb2⟩
  have Z2 := Lib.hid hb2
  clear hb2
  go_wp2_with fail
  refine (spec w2).mono ?_
  rintro e w3 ⟨v3, rfl, hmv, hb3⟩
  obtain ⟨sv, rfl, hfl⟩ := hmv
  obtain ⟨a0, c0, rfl⟩ := hfl.len
  have Z3 := Lib.hid (Z2.out.trans (hb3.lower (m := w.heap.size) Z2.out.size))
  have hq := below_push w3.heap.size (Nat.le_refl _) (.cells #[.slice a0 msg.fields.length c0, iv msg.flex] 25) rfl
  have HQ := Lib.hid hq
  have HF := Lib.hid (hfl.stay hq)
  have q0 := alloc_last w3 (.cells #[.slice a0 msg.fields.length c0, iv msg.flex] 25)
  have Q := Lib.hid q0
  clear hb3 hfl hq q0
  go_wp2_with fail
  have y : ∀ k, (w3.alloc (.cells #[.slice a0 msg.fields.length c0, iv msg.flex] 25)).cell? ⟨w3.heap.size, k, none⟩ = (#[.slice a0 msg.fields.length c0, iv msg.flex] : Array Value)[k]? := fun k => cell_of_row _ _ k _ _ _ Q.out
  have hlt : w3.heap.size < (w3.alloc (.cells #[.slice a0 msg.fields.length c0, iv msg.flex] 25)).heap.size := (Array.getElem?_eq_some_iff.1 Q.out).1
  clear Q
  generalize w3.alloc (.cells #[.slice a0 msg.fields.length c0, iv msg.flex] 25) = W at *
  go_region_held3 (fun w' => ∀ k, w'.cell? ⟨w3.heap.size, k, none⟩ = (#[.slice a0 msg.fields.length c0, iv msg.flex] : Array Value)[k]?) (assumption) (first
    | (go_at_call 8; refine (version_any _ n 10 h0 h1' (by decide) (by decide)).mono ?_; rintro e w4 ⟨he, hw4⟩; rw [hV] at he; subst he; have hw4 := hw4.symm; subst hw4)
    | (go_at_call 7; refine (HN.out _).mono ?_; rintro e w5 ⟨u5, rfl, ho5, hb5'⟩; have hb5 : Below W.heap.size W w5 := below_undrew hb5'; clear hb5';
       have y5 := fun k => ((bcell hb5).1 w3.heap.size k hlt).trans (y k); have Z5 := Lib.hid hb5; have H5 := Lib.hid ho5; have s5 : W.heap.size ≤ w5.heap.size := hb5.size; clear ho5 hb5)
    | (go_at_call 10; refine (Default_any _ _ msg.fields (HF.out.stay Z5.out) (new_kinds okNew) (by decide)).mono ?_; rintro e w6 ⟨tv6, rfl, ht6, hb6⟩;
       have y6 := fun k => ((bcell hb6).1 w3.heap.size k (show w3.heap.size < w5.heap.size by omega)).trans (y5 k); have Z6 := Lib.hid (Z5.out.trans (hb6.lower (m := W.heap.size) s5)); have D6 := Lib.hid hb6; have H6 := Lib.hid ht6; have s6 : w5.heap.size ≤ w6.heap.size := hb6.size; clear ht6 hb6)
    | (go_at_call 9; refine (HR.out _ _ _ ⟨_, rfl, HF.out.stay Z6.out⟩ H6.out).mono ?_; rintro e w7 ⟨u7, rfl, ho7, hb7⟩;
       have y7 := fun k => ((bcell hb7).1 w3.heap.size k (show w3.heap.size < w6.heap.size by omega)).trans (y6 k); have Z7 := Lib.hid (Z6.out.trans (hb7.lower (m := W.heap.size) (show W.heap.size ≤ w6.heap.size by omega)));
       have H7 := Lib.hid (own_bytes ho7); have H8 := Lib.hid (own_bytes (H5.out.grown (w' := w7) fun k hk => (hb7.block k (Nat.lt_of_lt_of_le hk s6)).trans (D6.out.block k hk))); clear ho7 hb7)
    | (go_at_call 6; refine (Same_any _ _ _ _ _ B B H8.out H7.out (by have := HL.out; omega)).mono ?_; rintro e w8 ⟨rfl, hg8⟩;
       have y8 := fun k => (cell_kept (hg8.block w3.heap.size (Nat.lt_of_lt_of_le hlt Z7.out.size) (by simp))).trans (y7 k);
       have Z8 := Lib.hid (Z7.out.trans ⟨hg8.os, hg8.tape, hg8.output, hg8.size, fun k hk => hg8.block k (Nat.lt_of_lt_of_le hk Z7.out.size) (by simp)⟩); clear hg8))
  go_wp2
  go_ret
  refine ⟨by simp, ?_⟩
  have h1 : Below w3.heap.size w3 w8 := HQ.out.trans (Z8.out.lower (m := w3.heap.size) (by omega))
  exact Z3.out.trans (h1.lower (m := w.heap.size) Z3.out.size)

section
open Go.ChangeShapes Go.WideShapes Go.ChangeAt Go.RowKit
set_option maxRecDepth 100000 in
theorem lifted (os : Os) (started : os.Started) (H : Type) (enc : TypeId × Value → H) :
    ReturnsInHanded {} Try.checked os 3 .any (Rows.fnNewOffsetFetchRequestSpec.pre6 enc Try.prog Try.f3 Rows.fnNewOffsetFetchRequestRow.domain false) (Rows.fnNewOffsetFetchRequestSpec.post enc Try.prog Try.f3 false true false false) := by
  refine returnsInHanded_of_change (C := Try.checked) own started (by kernel_rfl) Try.func3
    (ChangeSpec.witness6 (enc := enc) (C := Try.checked) false ⟨#[], #[.int .u8 0], []⟩ 8 (by kernel_rfl) (by kernel_rfl) (by kernel_rfl) (by kernel_rfl)) ?_
  intro W base args ds gs before hval0 hW hcnd _
  have hval : ∀ (j : Nat) t v, Try.f3.params[j]? = some t → args[j]? = some v → Value.okWide Try.prog W .any base t v := hval0
  have hW' := hW
  obtain ⟨p, q, hA0, hV, rfl, -, -⟩ := hW
  have hA : DataW.TrodAll enc Try.prog W 0 (fun _ => true) true Try.f3.params.toList args.toList ds p := hA0
  rw [Try.params3] at hA hval
  obtain ⟨v0, vs0, d0, ds0, p0, q0, hargs, rfl, rfl, h0, r0⟩ := trodAll_cons hA
  obtain ⟨rfl, rfl, rfl⟩ := trodAll_nil r0
  obtain rfl : args = #[v0] := by cases args; simp_all
  obtain ⟨n, rfl, rfl, rfl, hn⟩ := open_int Try.underlying5 (hval 0 5 v0 rfl rfl) h0
  obtain ⟨hn0, hn1⟩ := u8_range hn
  refine Calls.mono (walk W n hn0 hn1) ?_
  rintro e W' ⟨rfl, hb⟩
  refine ⟨_, rfl, ?_⟩
  refine law_post rfl (by kernel_rfl) hW' ?_ (fun t ht => ?_) hb
  · obtain ⟨rfl, rfl⟩ := trodVars_none hV
    rfl
  · rw [Try.params3] at ht
    simp only [List.mem_cons, List.not_mem_nil, or_false] at ht
    subst ht
    exact ⟨by kernel_rfl, of_decide_eq_true (by kernel_rfl)⟩
/-- The row's facts, first half. -/
def jA (P : Program) (f : FuncId) (fn : Func) (s : ChangeSpec) (c : OpenClaim) : Bool :=
  c.wf (OpenSpec.ofChange s) && laidOutB P && mapsRowed P &&
  fn.params.all (P.readableRec ·) && namedTie P c.named s.vars &&
  (c.stops == []) && (P.stops == []) && (c.knobs == []) && (P.stopKnobs == []) &&
  (c.inPlace == P.inPlace f) && (c.unfollowed == P.unfollowed f) && (c.recurses == P.recurses f) && (c.named == P.varsNamed f) &&
  (c.maps == (fn.params.toList ++ s.plain.varTypes P).any (P.mapsRec ·)) && (c.ifaces == (fn.params.toList ++ s.plain.varTypes P).any (P.ifacesRec ·)) && (c.mapsOut == P.mapsAmong fn.resultTypes.toList) &&
  (c.loops == (fn.params.toList ++ s.plain.varTypes P).any (P.loopsFrom ·)) && (c.wideKeys == (fn.params.toList ++ s.plain.varTypes P ++ fn.resultTypes.toList).any (P.wideKeysFrom ·)) &&
  s.vars.all (P.varReadable ·) && fn.resultTypes.all (fun t => P.readableRec t && decide (t < P.types.size)) && (c.ifacesOut == fn.resultTypes.toList.any (P.ifacesRec ·)) && (c.loopsOut == fn.resultTypes.toList.any (P.loopsFrom ·)) && (c.plainKeys == P.plainKeys) && c.shortTexts.isNone
/-- The second half. -/
def jB (P : Program) (fn : Func) (s : ChangeSpec) (c : OpenClaim) : Bool :=
  P.stopsHeard && P.mayEnter && (c.lifted == P.liftsFinal) && (P.make == some c.make) && (c.kinds == (if c.domain.isEmpty then [] else fn.params.toList.map fun t => match P.underlying t with | some (.int k) => some k | _ => none)) && (c.pinned == c.pinnedBy) &&
  (c.veiled == (fn.params.toList ++ s.plain.varTypes P ++ fn.resultTypes.toList).any (P.veiledRec ·)) && c.veiledFits P fn.params.toList (fn.params.toList ++ s.plain.varTypes P ++ fn.resultTypes.toList)
theorem j_two {P : Program} {f : FuncId} {fn : Func} {s : ChangeSpec} {c : OpenClaim} (hA : jA P f fn s c = true) (hB : jB P fn s c = true) : joinedFacts P f fn s c = true := by
  simp only [jA, Bool.and_eq_true] at hA
  simp only [jB, Bool.and_eq_true] at hB
  obtain ⟨⟨⟨⟨⟨⟨⟨b1, b2⟩, b3⟩, b4⟩, b5⟩, b6⟩, b7⟩, b8⟩ := hB
  simp only [joinedFacts, Bool.and_eq_true]
  exact ⟨⟨⟨⟨⟨⟨⟨⟨hA, b1⟩, b2⟩, b3⟩, b4⟩, b5⟩, b6⟩, b7⟩, b8⟩
theorem factsA : jA Try.pinned.checked.prog 3 Try.f3 Rows.fnNewOffsetFetchRequestSpec Rows.fnNewOffsetFetchRequestRow = true := by kernel_rfl
theorem factsB : jB Try.pinned.checked.prog Try.f3 Rows.fnNewOffsetFetchRequestSpec Rows.fnNewOffsetFetchRequestRow = true := by kernel_rfl
theorem said : Rows.FnNewOffsetFetchRequestSaid :=
  OpenClaim.holds_of_wide 3 Try.f3 rfl rfl rfl rfl rfl rfl rfl ⟨rfl, rfl, rfl, rfl, rfl⟩ rfl rfl rfl rfl rfl (by kernel_rfl) Try.func3 (j_two factsA factsB)
    (of_decide_eq_true (by kernel_rfl)) (by unfold Func.isWrapper; first | (rw [if_pos (by decide +kernel)]; kernel_rfl) | (rw [if_neg (by decide +kernel)]; exact ⟨rfl, rfl⟩))
    (fun os started H enc _ => lifted os started H enc)
end
end Go.Proofs.Ytbogepbfbplndaa.OffsetFetchRequest

