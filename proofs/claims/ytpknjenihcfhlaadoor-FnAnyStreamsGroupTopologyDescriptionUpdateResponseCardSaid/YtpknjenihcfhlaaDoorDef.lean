/-
  'Default' of a part: empty, or some fields set. Conditions: none.
-/
import Derived.Test.YtpknjenihcfhlaaDoorRd9
namespace Go.Proofs.YtpknjenihcfhlaaDoor
open Go.RowKit (Below)
open Kz

theorem defOk_skip {f sz : Nat} {ini : Cells → Prop} {fn : Func} (hf : Tryd.prog.funcs[f]? = some fn) (hb : fn.body = some Code.skip) (hr : fn.results = #[]) (hg : hasBody Tryd.prog f = true) : DefOk f sz ini := by
  refine ⟨hg, fun w G p cells Ty hrow hfit hini => ?_⟩
  refine calls_of_wp hf hb (wp_skip ?_)
  exact ⟨rfl, .tuple #[], results_none hr _ _ _, ⟨_, rfl⟩, grownBy_refl _ _, cells, hrow, rfl, fun _ _ => rfl, hini⟩

/-! ## Fields whose reading looks at 'isFlexible' -/
section
variable {tags : Rel (List (Nat × List UInt8))} {E : RE} {v : Int} {flex ht : Bool}
theorem Rv.flexG {α : Type} {id t fs d : Nat} {ty : TypeId} {p : String} {eg : Array Edge} {A B : Code} {Ret : World → (Nat → Prop) → Value → α → Prop} (gt : Bool → St → α × St) (hfs : E.fs = some fs) (ht : decide (t < E.N) = true) (hnt : [t].all (fun t => !E.slots.contains t) = true)
    (hA : Rv E v flex d (gt true) Ret A) (hB : Rv E v flex d (gt false) Ret B) :
    Rv E v flex d (gt flex) Ret ((Code.region id #[⟨some t, .move (.tmp fs), ty, p, eg, none⟩] false).seq (Code.cond (.tmp t) A B)) :=
  Rv.ifFlex hfs (of_decide_eq_true ht) (by simpa [List.contains_eq_mem] using hnt) (fun h => by rw [h] at hA ⊢; exact hA) (fun h => by rw [h] at hB ⊢; exact hB)
theorem Rv.safe {α : Type} {id t d : Nat} {ty : TypeId} {p : String} {eg : Array Edge} {A B : Code} {g : St → α × St} {Ret : World → (Nat → Prop) → Value → α → Prop} (ht : decide (t < E.N) = true) (hnt : [t].all (fun t => !E.slots.contains t) = true) (hB : Rv E v flex d g Ret B) :
    Rv E v flex d g Ret ((Code.region id #[⟨some t, .move (.tmp E.us), ty, p, eg, none⟩] false).seq (Code.cond (.tmp t) A B)) :=
  Rv.ifUnsafe (of_decide_eq_true ht) (by simpa [List.contains_eq_mem] using hnt) hB
theorem Rv.call {α : Type} {id f d1 d : Nat} {tys : Array TypeId} {t1 t2 : TypeId} {p1 p2 : String} {e1 e2 : Array Edge} {g : St → α × St} {Ret : World → (Nat → Prop) → Value → α → Prop} (hf : Reads f g Ret) (h : decide (d1 < E.N ∧ d < E.N) = true) :
    Rv E v flex d g Ret (Code.region id #[⟨some d1, .call { callee := .value (.func f), args := #[.tmp E.rs], argTypes := tys }, t1, p1, e1, none⟩, ⟨some d, .assign (.tmp d1), t2, p2, e2, none⟩] false) :=
  Rv.call1 hf (of_decide_eq_true h).1 (of_decide_eq_true h).2
theorem FV.textF {frm to tag dflt of sub d id t fs} {ty : TypeId} {p : String} {eg : Array Edge} {A B : Code} (hfs : E.fs = some fs) (ht : decide (t < E.N) = true) (hnt : [t].all (fun t => !E.slots.contains t) = true) (hA : Rv E v flex d (rdText true false 2) IsStr A) (hB : Rv E v flex d (rdText false false 2) IsStr B) :
    FV E v flex (.mk 8 frm to (-1) tag dflt of sub) d ((Code.region id #[⟨some t, .move (.tmp fs), ty, p, eg, none⟩] false).seq (Code.cond (.tmp t) A B)) := FV.text (Rv.flexG (fun f => rdText f false 2) hfs ht hnt hA hB)
theorem FV.textN {frm to tag dflt of sub d} {c : Code} (hfl : flex = false) (h : Rv E v flex d (rdText false false 2) IsStr c) : FV E v flex (.mk 8 frm to (-1) tag dflt of sub) d c := by
  subst hfl; exact FV.text h
theorem FV.ntextF {frm to null tag dflt of sub d id t fs} {ty : TypeId} {p : String} {eg : Array Edge} {A B : Code} (hn : decide (0 ≤ null) = true) (hv : null ≤ v) (hfs : E.fs = some fs) (ht : decide (t < E.N) = true) (hnt : [t].all (fun t => !E.slots.contains t) = true)
    (hA : Rv E v flex d (rdText true true 2) NstrV A) (hB : Rv E v flex d (rdText false true 2) NstrV B) :
    FV E v flex (.mk 8 frm to null tag dflt of sub) d ((Code.region id #[⟨some t, .move (.tmp fs), ty, p, eg, none⟩] false).seq (Code.cond (.tmp t) A B)) := FV.ntext (of_decide_eq_true hn) hv (Rv.flexG (fun f => rdText f true 2) hfs ht hnt hA hB) (ntext_null _ _)
theorem FV.ntextN {frm to null tag dflt of sub d} {c : Code} (hn : decide (0 ≤ null) = true) (hv : null ≤ v) (hfl : flex = false) (h : Rv E v flex d (rdText false true 2) NstrV c) : FV E v flex (.mk 8 frm to null tag dflt of sub) d c := by
  subst hfl; exact FV.ntext (of_decide_eq_true hn) hv h (ntext_null _ _)
theorem FV.bytesF {frm to tag dflt of sub d id t fs} {ty : TypeId} {p : String} {eg : Array Edge} {A B : Code} (hfs : E.fs = some fs) (ht : decide (t < E.N) = true) (hnt : [t].all (fun t => !E.slots.contains t) = true) (hA : Rv E v flex d (rdOctets true) IsBytes A) (hB : Rv E v flex d (rdOctets false) IsBytes B) :
    FV E v flex (.mk 9 frm to (-1) tag dflt of sub) d ((Code.region id #[⟨some t, .move (.tmp fs), ty, p, eg, none⟩] false).seq (Code.cond (.tmp t) A B)) := FV.bytes (Rv.flexG rdOctets hfs ht hnt hA hB)
theorem FV.bytesN {frm to tag dflt of sub d} {c : Code} (hfl : flex = false) (h : Rv E v flex d (rdOctets false) IsBytes c) : FV E v flex (.mk 9 frm to (-1) tag dflt of sub) d c := by
  subst hfl; exact FV.bytes h
/-- A list's length. -/
theorem Rv.lenF {d id t fs : Nat} {ty : TypeId} {p : String} {eg : Array Edge} {A B : Code} (hfs : E.fs = some fs) (ht : decide (t < E.N) = true) (hnt : [t].all (fun t => !E.slots.contains t) = true) (hA : Rv E v flex d (rdLen true) (IsInt .i32) A) (hB : Rv E v flex d (rdLen false) (IsInt .i32) B) :
    Rv E v flex d (rdLen flex) (IsInt .i32) ((Code.region id #[⟨some t, .move (.tmp fs), ty, p, eg, none⟩] false).seq (Code.cond (.tmp t) A B)) := Rv.flexG rdLen hfs ht hnt hA hB
theorem Rv.lenN {d : Nat} {c : Code} (hfl : flex = false) (h : Rv E v flex d (rdLen false) (IsInt .i32) c) : Rv E v flex d (rdLen flex) (IsInt .i32) c := by
  subst hfl; exact h
theorem rd_ArrayLen : Reads 87 (rdLen false) (IsInt .i32) := ⟨by kernel_rfl, fun w S rb st h _ => Calls.mono (ArrayLen_any w S rb st h) fun e w' ⟨h1, h2, h3⟩ => ⟨_, h1, rfl, h2, h3, rfl⟩⟩
theorem rd_CompactArrayLen : Reads 86 (rdLen true) (IsInt .i32) := ⟨by kernel_rfl, fun w S rb st h _ => Calls.mono (CompactArrayLen_any w S rb st h) fun e w' ⟨h1, h2, h3⟩ => ⟨_, h1, rfl, h2, h3, rfl⟩⟩
end
end Go.Proofs.YtpknjenihcfhlaaDoor
