/-
  Tags, written: AppendEach, Len. Conditions: none.
-/
import Derived.Test.YtpknjenihcfhlaaDoorTa3
namespace Go.Proofs.YtpknjenihcfhlaaDoor
open Go.RowKit Go.Lib Go.Sort
open Kz

/-- What a part's tags hold, and how great they are. -/
def UOk (u : List (Nat × List UInt8)) : Prop := u.length ≤ most ∧ ∀ x ∈ u, x.1 < 4294967296 ∧ x.2.length ≤ most

theorem each_none (w : World) (tb to : Nat) (hr : w.cell? ⟨tb, to, none⟩ = some (.map none)) (fv : Value) :
    Calls Tryd.prog 78 #[.pointer (some ⟨tb, to, none⟩), fv] w fun e w' => e = .returned (.tuple #[]) ∧ w' = w := by
  go_enter Tryd.func78, Tryd.ntmps78
  go_wp2
  exact ⟨rfl, .tuple #[], results_none (by kernel_rfl) _ _ _, rfl, rfl⟩
theorem each_empty (w : World) (tb to b n : Nat) (hr : w.cell? ⟨tb, to, none⟩ = some (.map (some b))) (hown : w.ownsMap Tryd.prog 56 heldR b n (.map (tagDs []))) (fv : Value) :
    Calls Tryd.prog 78 #[.pointer (some ⟨tb, to, none⟩), fv] w fun e w' => e = .returned (.tuple #[]) ∧ w' = w := by
  have bown : Box _ := ⟨hown⟩
  have hsz : Maps.size (DataW.map (tagDs [])) = 0 := rfl
  clear hown
  go_enter Tryd.func78, Tryd.ntmps78
  go_wp2_with (first
    | (at_len; refine wpList_len_own _ rfl _ 46 rfl 56 22 Tryd.underlying46 _ b n _ rfl bown.get ?_; rw [hsz]))
  exact ⟨rfl, .tuple #[], results_none (by kernel_rfl) _ _ _, rfl, rfl⟩

theorem each_any (w : World) (base tb to db : Nat) (bs : List UInt8) (u : List (Nat × List UInt8)) (K : Nat → Prop) (hT : TagRep w K (fun j => w.cell? ⟨tb, to + j, none⟩) u) (htb : tb < base) (hd : DstAt w base db bs) (hb : base ≤ w.heap.size) (hK : ∀ g, K g → g < base) (hu : UOk u)
    (hlen : bs.length + (u.flatMap tagB).length ≤ lim2) :
    Calls Tryd.prog 78 #[.pointer (some ⟨tb, to, none⟩), .func (.func 79) #[] #[.pointer (some ⟨db, 0, none⟩)]] w fun e w' =>
      e = .returned (.tuple #[]) ∧ DstAt w' base db (bs ++ u.flatMap tagB) ∧ Below base w w' := by
  obtain ⟨r, hr, hT⟩ := hT
  have hr' : w.cell? ⟨tb, to, none⟩ = some (.map r) := hr
  cases r with
  | none =>
    have : u = [] := hT
    subst this
    refine Calls.mono (each_none w tb to hr' _) ?_
    rintro e w' ⟨rfl, rfl⟩
    exact ⟨rfl, by simpa using hd, Below.refl _ _⟩
  | some b =>
    obtain ⟨hKb, l, n, hl, hown, -, hta⟩ := hT
    by_cases hne : l = []
    · subst hne
      have : u = [] := by
        cases u with
        | nil => rfl
        | cons x r => exact hta.elim
      subst this
      refine Calls.mono (each_empty w tb to b n hr' hown _) ?_
      rintro e w' ⟨rfl, rfl⟩
      exact ⟨rfl, by simpa using hd, Below.refl _ _⟩
    · exact each_some w base tb to db b n bs l u K hr' htb hKb hne hl hown hta hd hb hK hu.1 hu.2 hlen

set_option maxHeartbeats 1000000 in
theorem AppendEach_any (w : World) (base tb to : Nat) (v : Value) (bs : List UInt8) (u : List (Nat × List UInt8)) (K : Nat → Prop) (hT : TagRep w K (fun j => w.cell? ⟨tb, to + j, none⟩) u) (htb : tb < base) (ho : OwnB w base v bs) (hb : base ≤ w.heap.size) (hK : ∀ g, K g → g < base) (hu : UOk u)
    (hlen : bs.length + (u.flatMap tagB).length ≤ lim2) :
    Calls Tryd.prog 53 #[.pointer (some ⟨tb, to, none⟩), v] w fun e w' => ∃ v', e = .returned v' ∧ OwnB w' base v' (bs ++ u.flatMap tagB) ∧ Below base w w' := by
  obtain ⟨p, n, m, rfl⟩ := own_slice ho
  let W := w.alloc (.cells #[.slice p n m] 22)
  have hW : Below base w W := ⟨rfl, rfl, rfl, by simp [W], fun k hk => alloc_old w _ k (by omega)⟩
  have hT' : TagRep W K (fun j => W.cell? ⟨tb, to + j, none⟩) u := stable_tagRep w W K K _ _ u (fun g hg _ => hW.block g (hK g hg)) hW.size (fun _ h => h) (fun j _ => cell_kept (hW.block tb htb)) hT
  have hd : DstAt W base w.heap.size bs := ⟨hb, _, alloc_new w _, ho.grown fun k hk => alloc_old w _ k hk⟩
  have hc := each_any W base tb to w.heap.size bs u K hT' htb hd (by simp [W]; omega) hK hu hlen
  have bc : Box _ := ⟨hc⟩
  have bW : Box _ := ⟨hW⟩
  clear hc hT hT' ho hd hW
  go_enter Tryd.func53, Tryd.ntmps53
  go_wp2_with fail
  refine bc.get.mono ?_
  rintro e w1 ⟨rfl, ⟨h0, v', hv', ho'⟩, hb1⟩
  have c1 : w1.cell? ⟨w.heap.size, 0, none⟩ = some v' := by rw [cell_of_row w1 _ 0 _ _ _ hv']; rfl
  have bo' : Box _ := ⟨ho'⟩
  have bb1 : Box _ := ⟨hb1⟩
  clear hv' ho' hb1
  go_wp2
  go_ret
  exact ⟨v', rfl, bo'.get, bW.get.trans bb1.get⟩

theorem Len_any (w : World) (tb to : Nat) (u : List (Nat × List UInt8)) (K : Nat → Prop) (hT : TagRep w K (fun j => w.cell? ⟨tb, to + j, none⟩) u) :
    Calls Tryd.prog 52 #[.pointer (some ⟨tb, to, none⟩)] w fun e w' => e = .returned (.int .i64 (u.length : Int)) ∧ w' = w := by
  obtain ⟨r, hr, hT⟩ := hT
  have hr' : w.cell? ⟨tb, to, none⟩ = some (.map r) := hr
  cases r with
  | none =>
    have : u = [] := hT
    subst this
    go_enter Tryd.func52, Tryd.ntmps52
    go_wp2
    go_ret
    exact ⟨rfl, rfl⟩
  | some b =>
    obtain ⟨hKb, l, n, hl, hown, -, hta⟩ := hT
    have hsz : Maps.size (DataW.map (tagDs l)) = u.length := by rw [size_tags, (tags_len l u hta).1]
    have bown : Box _ := ⟨hown⟩
    clear hown hta
    go_enter Tryd.func52, Tryd.ntmps52
    go_wp2_with (first
      | (at_len; refine wpList_len_own _ rfl _ 46 rfl 56 22 Tryd.underlying46 _ b n _ rfl bown.get ?_; rw [hsz]))
    go_ret
    exact ⟨rfl, rfl⟩
end Go.Proofs.YtpknjenihcfhlaaDoor
