/-
  Code that writes: values of one cell; lists. Conditions: none.
-/
import Derived.Test.YtpknjenihcfhlaaDoorAp2
namespace Go.Proofs.YtpknjenihcfhlaaDoor
open Go.RowKit (Below)
open Kz

theorem lim_of {n m : Nat} {k : Nat} (h : n + m ≤ lim2) (hk : k ≤ 100) : n + k ≤ lim := by simp only [lim, lim2] at h ⊢; omega

/-! ## What the writing functions write -/
def TextA (_ : World) (_ : Nat → Prop) (u : Value) (t : T) : Prop := u = strV t.s ∧ t.s.length ≤ most
def NtextA (w : World) (K : Nat → Prop) (u : Value) (t : T) : Prop :=
  t.s.length ≤ most ∧ if t.null then u = .pointer none else ∃ g o, u = .pointer (some ⟨g, o, none⟩) ∧ K g ∧ w.cell? ⟨g, o, none⟩ = some (strV t.s)
def OctA (w : World) (K : Nat → Prop) (u : Value) (t : T) : Prop := BytesAt w K u t.s ∧ t.s.length ≤ most
def textB (sz : Nat) (flex : Bool) (t : T) : List UInt8 := counted flex false t.s.length sz ++ t.s
def ntextB (flex : Bool) (t : T) : List UInt8 := if t.null then counted flex true 0 2 else textB 2 flex t
def U16A (_ : World) (_ : Nat → Prop) (u : Value) (x : Int) : Prop := u = .int .u16 x ∧ 0 ≤ x ∧ x < 65536
def BoolA (_ : World) (_ : Nat → Prop) (u : Value) (x : Bool) : Prop := u = .bool x

theorem wr_Int16 : Writes 50 (fun x => fixed x 2) (IsInt .i16) := ⟨by kernel_rfl, fun base K bs w v u x ho hb hK ha hl => by cases ha; exact AppendInt16_any w base v bs x ho hb (lim_of hl (by decide))⟩
theorem wr_Int32 : Writes 56 (fun x => fixed x 4) (IsInt .i32) := ⟨by kernel_rfl, fun base K bs w v u x ho hb hK ha hl => by cases ha; exact AppendInt32_any w base v bs x ho hb (lim_of hl (by decide))⟩
theorem wr_Int64 : Writes 49 (fun x => fixed x 8) (IsInt .i64) := ⟨by kernel_rfl, fun base K bs w v u x ho hb hK ha hl => by cases ha; exact AppendInt64_any w base v bs x ho hb (lim_of hl (by decide))⟩
theorem wr_Uint16 : Writes 76 (fun x => fixed x 2) U16A := ⟨by kernel_rfl, fun base K bs w v u x ho hb hK ha hl => by obtain ⟨rfl, h0, h1⟩ := ha; exact AppendUint16_any w base v bs x ho hb h0 h1 (lim_of hl (by decide))⟩
theorem wr_String : Writes 48 (textB 2 false) TextA := ⟨by kernel_rfl, fun base K bs w v u x ho hb hK ha hl => by obtain ⟨rfl, h⟩ := ha; exact AppendString_any w base v bs x.s ho hb (by simp only [most] at h; omega) hl⟩
theorem wr_CompactString : Writes 47 (textB 2 true) TextA := ⟨by kernel_rfl, fun base K bs w v u x ho hb hK ha hl => by obtain ⟨rfl, h⟩ := ha; exact AppendCompactString_any w base v bs x.s ho hb (by simp only [most] at h; omega) hl⟩
theorem wr_NullableString : Writes 58 (ntextB false) NtextA := ⟨by kernel_rfl, fun base K bs w v u x ho hb hK ha hl => by
  obtain ⟨h0, ha⟩ := ha
  cases hn : x.null with
  | true => rw [hn, if_pos rfl] at ha; subst ha; simp only [ntextB, hn, if_true]; exact AppendNullableString_nil w base v bs ho hb (lim_of hl (by decide))
  | false =>
    rw [hn, if_neg (by simp)] at ha
    obtain ⟨g, o, rfl, -, hc⟩ := ha
    have e : ntextB false x = textB 2 false x := by simp [ntextB, hn]
    rw [e] at hl ⊢
    exact AppendNullableString_some w base v bs x.s g o hc ho hb (by simp only [most] at h0; omega) hl⟩
theorem wr_CompactNullableString : Writes 57 (ntextB true) NtextA := ⟨by kernel_rfl, fun base K bs w v u x ho hb hK ha hl => by
  obtain ⟨h0, ha⟩ := ha
  cases hn : x.null with
  | true => rw [hn, if_pos rfl] at ha; subst ha; simp only [ntextB, hn, if_true]; exact AppendCompactNullableString_nil w base v bs ho hb (lim_of hl (by decide))
  | false =>
    rw [hn, if_neg (by simp)] at ha
    obtain ⟨g, o, rfl, -, hc⟩ := ha
    have e : ntextB true x = textB 2 true x := by simp [ntextB, hn]
    rw [e] at hl ⊢
    exact AppendCompactNullableString_some w base v bs x.s g o hc ho hb (by simp only [most] at h0; omega) hl⟩

/-! ## Fields of one cell -/
section
variable {tags : Rel (List (Nat × List UInt8))} {E : WE} {v : Int} {flex ht : Bool}

theorem Av.conv {α β : Type} {d : Nat} {wrt : α → List UInt8} {wrt' : β → List UInt8} {Arg : World → (Nat → Prop) → Value → α → Prop} {Arg' : World → (Nat → Prop) → Value → β → Prop} {c : Code} (h : Av E v flex d wrt Arg c) (k : β → α) (hR : ∀ w K u x, Arg' w K u x → Arg w K u (k x))
    (hw : ∀ w K u x, Arg' w K u x → wrt' x = wrt (k x)) : Av E v flex d wrt' Arg' c := by
  intro base K bs a w x hp hr hl
  rw [hw _ _ _ _ hr] at hl ⊢
  exact h base K bs a w (k x) hp (hR _ _ _ _ hr) hl

/-- What is asked of a code that writes a field's value, which a slot holds. -/
def FA (tags : Rel (List (Nat × List UInt8))) (E : WE) (v : Int) (flex ht : Bool) (f : F) (d : Nat) (c : Code) : Prop :=
  Av E v flex d (wr v flex f) (fun w K u t => repF tags v flex ht f w K (fun _ => some u) t ∧ Fit t) c

def oneF (f : F) : Bool := decide (f.kind ≠ 7) && decide (f.kind = 10 → 0 ≤ f.null)
theorem rep_one {f : F} (h : oneF f = true) {w : World} {K : Nat → Prop} {cc : Cells} {t : T} (hr : repF tags v flex ht f w K cc t) : ∃ u, cc 0 = some u ∧ repF tags v flex ht f w K (fun _ => some u) t := by
  cases f with
  | mk kind frm to null tag dflt of sub =>
    simp only [oneF, Bool.and_eq_true, decide_eq_true_eq] at h
    simp only [repF, fieldRep] at hr ⊢
    by_cases h11 : kind = 11
    · rw [if_pos h11] at hr ⊢
      unfold listRep at hr ⊢
      split at hr
      · rename_i hq; exact ⟨_, hr.1, by rw [if_pos hq]; exact ⟨rfl, hr.2⟩⟩
      · rename_i hq
        obtain ⟨h1, h2⟩ := hr
        rcases h2 with ⟨a1, a2, a3⟩ | ⟨g, o, m, a1, a2⟩
        · exact ⟨_, a2, by rw [if_neg hq]; exact ⟨h1, .inl ⟨a1, rfl, a3⟩⟩⟩
        · exact ⟨_, a1, by rw [if_neg hq]; exact ⟨h1, .inr ⟨g, o, m, rfl, a2⟩⟩⟩
    · rw [if_neg h11] at hr ⊢
      unfold valRep at hr ⊢
      by_cases h0 : kind = 0
      · simp only [if_pos h0] at hr ⊢; exact ⟨_, hr.1, rfl, hr.2⟩
      simp only [if_neg h0, if_neg h.1] at hr ⊢
      by_cases h8 : kind = 8
      · simp only [if_pos h8] at hr ⊢
        by_cases hp : decide (0 ≤ null) = true
        · simp only [if_pos hp] at hr ⊢
          by_cases hn : t.null = true
          · simp only [if_pos hn] at hr ⊢; exact ⟨_, hr.1, rfl, hr.2⟩
          · simp only [if_neg hn] at hr ⊢
            obtain ⟨g, o, a1, a2⟩ := hr
            exact ⟨_, a1, g, o, rfl, a2⟩
        · simp only [if_neg hp] at hr ⊢; exact ⟨_, hr.1, rfl, hr.2⟩
      simp only [if_neg h8] at hr ⊢
      by_cases h9 : kind = 9
      · simp only [if_pos h9] at hr ⊢
        obtain ⟨u, a1, a2⟩ := hr
        exact ⟨u, a1, u, rfl, a2⟩
      simp only [if_neg h9] at hr ⊢
      by_cases h10 : kind = 10
      · have hp : decide (0 ≤ null) = true := decide_eq_true (h.2 h10)
        simp only [if_pos h10, if_pos hp] at hr ⊢
        by_cases hn : t.null = true
        · simp only [if_pos hn] at hr ⊢; exact ⟨_, hr, rfl⟩
        · simp only [if_neg hn] at hr ⊢
          obtain ⟨g, o, a1, a2⟩ := hr
          exact ⟨_, a1, g, o, rfl, a2⟩
      · simp only [if_neg h10] at hr ⊢; exact ⟨_, hr.1, rfl, hr.2⟩
/-- 'v := s.F', and what is written of it. -/
theorem ApV.of {sp off d : Nat} {f : F} {c1 c : Code} (h1 : SLoad E.N sp off d c1) (h : FA tags E v flex ht f d c) (h1f : oneF f = true) (hcl : clear (E.ds :: E.slots) c1 = true) : ApV tags E v flex ht sp off f (c1.seq c) :=
  Ap.conv (Ap.load h1 h hcl) id (fun w K cc x hx => by obtain ⟨u, hu, hr⟩ := rep_one h1f hx.1; exact ⟨u, hu, hr, hx.2⟩) (fun _ _ _ _ _ => rfl)

theorem FA.int {k frm to null tag dflt of sub d} {c : Code} (hk : decide (k = 1 ∨ k = 2 ∨ k = 3 ∨ k = 4) = true) (h : Av E v flex d (fun x => fixed x (width k)) (IsInt (ikOf k)) c) : FA tags E v flex ht (.mk k frm to null tag dflt of sub) d c := by
  refine Av.conv h T.n (fun w K u t ht => ?_) (fun w K u t ht => ?_)
  · rcases of_decide_eq_true hk with rfl | rfl | rfl | rfl <;> (have := ht.1; simp [repF, fieldRep, valRep] at this; simp [IsInt, this])
  · rcases of_decide_eq_true hk with rfl | rfl | rfl | rfl <;> rfl
theorem FA.uint {frm to null tag dflt of sub d} {c : Code} (h : Av E v flex d (fun x => fixed x 2) U16A c) : FA tags E v flex ht (.mk 5 frm to null tag dflt of sub) d c := by
  refine Av.conv h T.n (fun w K u t ht => ?_) (fun w K u t ht => rfl)
  have := ht.1; simp [repF, fieldRep, valRep, ikOf] at this; exact ⟨this.1, this.2⟩
theorem FA.bool {frm to null tag dflt of sub d} {c : Code} (h : Av E v flex d (fun x : Bool => [if x then 1 else 0]) BoolA c) : FA tags E v flex ht (.mk 0 frm to null tag dflt of sub) d c := by
  refine Av.conv h (fun t => decide (t.n = 1)) (fun w K u t ht => ?_) (fun w K u t ht => ?_)
  · have := ht.1; simp [repF, fieldRep, valRep] at this; exact this.1
  · have := ht.1; simp [repF, fieldRep, valRep] at this
    rcases this.2 with h0 | h0 <;> simp [wr, fieldW, valW, h0]
theorem take_fit {s : List UInt8} (h : s.length ≤ most) : s.take most = s := List.take_of_length_le h
theorem FA.text {frm to tag dflt of sub d} {c : Code} (h : Av E v flex d (textB 2 flex) TextA c) : FA tags E v flex ht (.mk 8 frm to (-1) tag dflt of sub) d c := by
  refine Av.conv h id (fun w K u t ht => ?_) (fun w K u t ht => ?_)
  · have := ht.1; simp [repF, fieldRep, valRep] at this; exact ⟨this.1, ht.2.fs⟩
  · simp [wr, fieldW, valW, F.nul, take_fit ht.2.fs, textB]
theorem FA.octets {frm to tag dflt of sub d} {c : Code} (h : Av E v flex d (textB 4 flex) OctA c) : FA tags E v flex ht (.mk 9 frm to (-1) tag dflt of sub) d c := by
  refine Av.conv h id (fun w K u t ht => ?_) (fun w K u t ht => ?_)
  · have := ht.1; simp [repF, fieldRep, valRep] at this; exact ⟨this.1, ht.2.fs⟩
  · simp [wr, fieldW, valW, F.nul, take_fit ht.2.fs, textB]
theorem FA.ntext {frm to null tag dflt of sub d} {c : Code} (hn : decide (0 ≤ null) = true) (hv : null ≤ v) (h : Av E v flex d (ntextB flex) NtextA c) : FA tags E v flex ht (.mk 8 frm to null tag dflt of sub) d c := by
  have hn' := of_decide_eq_true hn
  refine Av.conv h id (fun w K u t ht => ?_) (fun w K u t ht => ?_)
  · have := ht.1; simp [repF, fieldRep, valRep, hn'] at this
    refine ⟨ht.2.fs, ?_⟩
    show if t.null = true then _ else _
    split
    · rename_i h0; rw [if_pos h0] at this; exact this.1
    · rename_i h0; rw [if_neg h0] at this
      obtain ⟨g, o, a1, a2, -, a4⟩ := this
      exact ⟨g, o, a1, a2, a4⟩
  · show wr v flex _ t = ntextB flex t
    simp only [wr, fieldW, valW, F.nul, hn', hv, decide_true, Bool.and_true, ntextB, textB, take_fit ht.2.fs]
    cases t.null <;> simp

theorem Av.flexV {α : Type} {id t fs d : Nat} {ty : TypeId} {p : String} {eg : Array Edge} {A B : Code} {Arg : World → (Nat → Prop) → Value → α → Prop} (gt : Bool → α → List UInt8) (hfs : E.fs = some fs) (ht : decide (t < E.N) = true) (hnt : (d :: E.ds :: E.slots).contains t = false)
    (hA : Av E v flex d (gt true) Arg A) (hB : Av E v flex d (gt false) Arg B) :
    Av E v flex d (gt flex) Arg ((Code.region id #[⟨some t, .move (.tmp fs), ty, p, eg, none⟩] false).seq (Code.cond (.tmp t) A B)) := Av.flexG gt hfs ht hnt hA hB
theorem Av.plainV {α : Type} {d : Nat} {c : Code} {Arg : World → (Nat → Prop) → Value → α → Prop} (gt : Bool → α → List UInt8) (hfl : flex = false) (h : Av E v flex d (gt false) Arg c) : Av E v flex d (gt flex) Arg c := by
  subst hfl; exact h
end
end Go.Proofs.YtpknjenihcfhlaaDoor
