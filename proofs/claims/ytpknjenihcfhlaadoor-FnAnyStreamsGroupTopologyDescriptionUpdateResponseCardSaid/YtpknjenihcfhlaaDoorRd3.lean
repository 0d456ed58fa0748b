/-
  The reader's functions, in one form; fields of numbers, texts, octets. Conditions: none.
-/
import Derived.Test.YtpknjenihcfhlaaDoorRd2
namespace Go.Proofs.YtpknjenihcfhlaaDoor
open Go.RowKit (Below)
open Kz

def IsInt (k : IntKind) (_ : World) (_ : Nat → Prop) (u : Value) (x : Int) : Prop := u = .int k x
theorem stable_isInt (k : IntKind) : StableV (IsInt k) := fun _ _ _ _ _ _ _ _ _ h => h
def IsNat (k : IntKind) (_ : World) (_ : Nat → Prop) (u : Value) (x : Nat) : Prop := u = .int k x
theorem stable_isNat (k : IntKind) : StableV (IsNat k) := fun _ _ _ _ _ _ _ _ _ h => h
def IsStr (_ : World) (_ : Nat → Prop) (u : Value) (x : T) : Prop := u = strV x.s ∧ x.null = false
theorem stable_isStr : StableV IsStr := fun _ _ _ _ _ _ _ _ _ h => h
def IsBool (_ : World) (_ : Nat → Prop) (u : Value) (x : Nat) : Prop := u = .bool (x != 0)
theorem stable_isBool : StableV IsBool := fun _ _ _ _ _ _ _ _ _ h => h
theorem stable_nstr : StableV NstrV := fun w w' K K' v x hk hs hK h => by
  rcases h with h | ⟨h0, g, h1, h2, h3, h4⟩
  · exact .inl h
  · exact .inr ⟨h0, g, h1, hK g h2, Nat.lt_of_lt_of_le h3 hs, by rw [cell_kept (hk g h2 h3)]; exact h4⟩
def IsBytes (w : World) (K : Nat → Prop) (u : Value) (x : T) : Prop := BytesAt w K u x.s ∧ x.null = false
theorem stable_isBytes : StableV IsBytes := fun _ _ _ _ _ _ hk hs hK h => ⟨stable_bytes hk hs hK h.1, h.2⟩

theorem rd_Int16 : Reads 72 (rdI 2) (IsInt .i16) := ⟨by kernel_rfl, fun w S rb st h _ => Calls.mono (Int16_any w S rb st h) fun e w' ⟨h1, h2, h3⟩ => ⟨_, h1, rfl, h2, h3, rfl⟩⟩
theorem rd_Int32 : Reads 80 (rdI 4) (IsInt .i32) := ⟨by kernel_rfl, fun w S rb st h _ => Calls.mono (Int32_any w S rb st h) fun e w' ⟨h1, h2, h3⟩ => ⟨_, h1, rfl, h2, h3, rfl⟩⟩
theorem rd_Int64 : Reads 71 (rdI 8) (IsInt .i64) := ⟨by kernel_rfl, fun w S rb st h _ => Calls.mono (Int64_any w S rb st h) fun e w' ⟨h1, h2, h3⟩ => ⟨_, h1, rfl, h2, h3, rfl⟩⟩
theorem text_null (flex : Bool) (k : Nat) (st : St) : (rdText flex false k st).1.null = false := by
  simp [rdText, Ts]
theorem octets_null (flex : Bool) (st : St) : (rdOctets flex st).1.null = false := by
  simp only [rdOctets]
  split <;> rfl
theorem rd_String : Reads 70 (rdText false false 2) IsStr := ⟨by kernel_rfl, fun w S rb st h _ => Calls.mono (String_any w S rb st h) fun e w' ⟨h1, h2, h3⟩ => ⟨_, h1, rfl, h2, h3, rfl, text_null _ _ _⟩⟩
theorem rd_CompactString : Reads 69 (rdText true false 2) IsStr := ⟨by kernel_rfl, fun w S rb st h _ => Calls.mono (CompactString_any w S rb st h) fun e w' ⟨h1, h2, h3⟩ => ⟨_, h1, rfl, h2, h3, rfl, text_null _ _ _⟩⟩
theorem nstr_one {w : World} {K : Nat → Prop} {v : Value} {t : T} (h : NstrV w K v t) : v.oneCell' = true := by
  rcases h with ⟨-, rfl⟩ | ⟨-, g, rfl, -⟩ <;> rfl
theorem nstr_mono {w : World} {K K' : Nat → Prop} {v : Value} {t : T} (h : NstrV w K v t) (hK : ∀ g, K g → K' g) : NstrV w K' v t := stable_nstr w w K K' v t (fun _ _ _ => rfl) (Nat.le_refl _) hK h
theorem rd_NullableString : Reads 84 (rdText false true 2) NstrV := ⟨by kernel_rfl, fun w S rb st h _ => Calls.mono (NullableString_any w S rb st h) fun e w' ⟨v, h1, h4, h2, h3⟩ => ⟨v, h1, nstr_one h4, h2, h3, nstr_mono h4 fun g hg => .inr hg⟩⟩
theorem rd_CompactNullableString : Reads 82 (rdText true true 2) NstrV := ⟨by kernel_rfl, fun w S rb st h _ => Calls.mono (CompactNullableString_any w S rb st h) fun e w' ⟨v, h1, h4, h2, h3⟩ => ⟨v, h1, nstr_one h4, h2, h3, nstr_mono h4 fun g hg => .inr hg⟩⟩
theorem bytes_one {w : World} {K : Nat → Prop} {v : Value} {bs : List UInt8} (h : BytesAt w K v bs) : v.oneCell' = true := by
  rcases h with ⟨rfl, -⟩ | ⟨g, o, c, rfl, -⟩ <;> rfl

section
variable {tags : Rel (List (Nat × List UInt8))} {E : RE} {v : Int} {flex ht : Bool}

/-- A code that leaves a value, of a field of one cell, ahead of its store: what is asked of it. -/
def FV (E : RE) (v : Int) (flex : Bool) (f : F) (d : Nat) (c : Code) : Prop :=
  ∃ (α : Type) (g : St → α × St) (Ret : World → (Nat → Prop) → Value → α → Prop) (k : α → T), Rv E v flex d g Ret c ∧ StableV Ret ∧ (∀ st, rd v flex f st = (k (g st).1, (g st).2)) ∧
    ∀ (tags : Rel (List (Nat × List UInt8))) (ht : Bool) w K cc x u, cc 0 = some u → Ret w K u x → repF tags v flex ht f w K cc (k x)

theorem FV.int {k frm to null tag dflt of sub d} {c : Code} (hk : k = 1 ∨ k = 2 ∨ k = 3 ∨ k = 4) (h : Rv E v flex d (rdI (width k)) (IsInt (ikOf k)) c) : FV E v flex (.mk k frm to null tag dflt of sub) d c :=
  ⟨Int, rdI (width k), IsInt (ikOf k), Tn, h, stable_isInt _, fun st => by rcases hk with rfl | rfl | rfl | rfl <;> rfl,
    fun tags ht w K cc x u hc hu => by
      rcases hk with rfl | rfl | rfl | rfl <;> (simp [repF, fieldRep, valRep, Tn]; rw [hc, hu])⟩
theorem rdU2_lt (st : St) : (rdU 2 st).1 < 65536 := by
  cases st with
  | none => decide
  | some bs =>
    simp only [rdU, rdN]
    split
    · rename_i h
      have h1 := beNat_lt (bs.take 2)
      have h2 : (bs.take 2).length = 2 := by rw [List.length_take]; omega
      rw [h2] at h1
      simpa using h1
    · show (0 : Nat) < 65536
      decide
theorem FV.uint {frm to null tag dflt of sub d} {c : Code} (h : Rv E v flex d (rdU 2) (IsNat .u16) c) : FV E v flex (.mk 5 frm to null tag dflt of sub) d c :=
  ⟨Nat, rdU 2, fun w K u x => IsNat .u16 w K u x ∧ x < 65536, fun n => Tn n, fun rb S st a w h1 h2 h3 => wp_mono (h rb S st a w h1 h2 h3) (fun e a' w' hq => by
      cases e with
      | normal => exact ⟨hq.1, hq.2.1, hq.2.2.1, hq.2.2.2.1, hq.2.2.2.2, rdU2_lt st⟩
      | _ => exact hq), fun _ _ _ _ _ _ _ _ _ h => h, fun st => rfl,
    fun tags ht w K cc x u hc hu => by simp [repF, fieldRep, valRep, Tn]; rw [hc, hu.1]; exact ⟨rfl, by have := hu.2; omega⟩⟩
theorem FV.bool {frm to null tag dflt of sub d} {c : Code} (h : Rv E v flex d (rdU 1) IsBool c) : FV E v flex (.mk 0 frm to null tag dflt of sub) d c :=
  ⟨Nat, rdU 1, IsBool, fun n => Tn (if n = 0 then 0 else 1), h, stable_isBool, fun st => rfl,
    fun tags ht w K cc x u hc hu => by
      simp [repF, fieldRep, valRep, Tn]; rw [hc, hu]
      by_cases hx : x = 0 <;> simp [hx]⟩
theorem FV.text {frm to tag dflt of sub d} {c : Code} (h : Rv E v flex d (rdText flex false 2) IsStr c) : FV E v flex (.mk 8 frm to (-1) tag dflt of sub) d c :=
  ⟨T, rdText flex false 2, IsStr, id, h, stable_isStr, fun st => by simp [rd, fieldR, valR, F.may],
    fun tags ht w K cc x u hc hu => by simp [repF, fieldRep, valRep]; rw [hc, hu.1]; exact ⟨rfl, hu.2⟩⟩
theorem FV.ntext {frm to null tag dflt of sub d} {c : Code} (hn : 0 ≤ null) (hv : null ≤ v) (h : Rv E v flex d (rdText flex true 2) NstrV c) (hs : ∀ st, (rdText flex true 2 st).1.null = true → (rdText flex true 2 st).1.s = []) : FV E v flex (.mk 8 frm to null tag dflt of sub) d c :=
  ⟨T, rdText flex true 2, fun w K u x => NstrV w K u x ∧ (x.null = true → x.s = []), id, fun rb S st a w h1 h2 h3 => wp_mono (h rb S st a w h1 h2 h3) (fun e a' w' hq => by
      cases e with
      | normal => exact ⟨hq.1, hq.2.1, hq.2.2.1, hq.2.2.2.1, hq.2.2.2.2, hs st⟩
      | _ => exact hq), fun w w' K K' u x hk hs hK h => ⟨stable_nstr w w' K K' u x hk hs hK h.1, h.2⟩, fun st => by simp [rd, fieldR, valR, F.may, hn, hv],
    fun tags ht w K cc x u hc hu => by
      simp [repF, fieldRep, valRep, hn]; rw [hc]
      obtain ⟨hu, hx⟩ := hu
      rcases hu with ⟨h0, rfl⟩ | ⟨h0, g, rfl, h1, h2, h3⟩
      · rw [if_pos h0]; exact ⟨rfl, hx h0⟩
      · rw [if_neg (by simp [h0])]; exact ⟨g, 0, rfl, h1, h2, h3⟩⟩
theorem FV.bytes {frm to tag dflt of sub d} {c : Code} (h : Rv E v flex d (rdOctets flex) IsBytes c) : FV E v flex (.mk 9 frm to (-1) tag dflt of sub) d c :=
  ⟨T, rdOctets flex, IsBytes, id, h, stable_isBytes, fun st => by simp [rd, fieldR, valR, F.may],
    fun tags ht w K cc x u hc hu => by simp [repF, fieldRep, valRep]; exact ⟨u, hc, hu.1, hu.2⟩⟩
theorem ntext_null (flex : Bool) (k : Nat) (st : St) : (rdText flex true k st).1.null = true → (rdText flex true k st).1.s = [] := by
  simp only [rdText, true_and]
  split
  · intro _; rfl
  · intro h; cases h

/-- A value of one cell is put into its field. -/
theorem RdV.of {id sp off d t1 t2 t3 t4 T k ty : Nat} {ty1 ty2 ty3 ty4 ty5 : TypeId} {p1 p2 p3 p4 p5 : String} {e1 e2 e3 e4 e5 : Array Edge} {f : F} {c : Code} (h : FV E v flex f d c) (hone : cellsF ht f = 1) (hcl : clear (sp :: E.slots) c = true)
    (hf : offOf Tryd.prog T k = some off) (hty : sizeIs Tryd.prog ty 1 = true) (hn : [t1, t2, t3, t4].all (· < E.N) = true) (hd : decide (t1 ≠ t2 ∧ t1 ≠ d ∧ t2 ≠ t3 ∧ t2 ≠ t4) = true) :
    RdV tags E v flex ht sp off f (c.seq (Code.region id #[⟨some t1, .move (.tmp sp), ty1, p1, e1, none⟩, ⟨some t2, .move (.tmp d), ty2, p2, e2, none⟩, ⟨some t3, .nilCheck (.tmp t1), ty3, p3, e3, none⟩,
      ⟨some t4, .fieldAddr T (.tmp t3) k, ty4, p4, e4, none⟩, ⟨none, .store ty (.tmp t4) (.tmp t2), ty5, p5, e5, none⟩] false)) := by
  obtain ⟨α, g, Ret, kk, h1, h2, h3, h4⟩ := h
  unfold RdV
  rw [hone]
  exact Rd.conv (Rd.store (ini := fun _ => True) h1 h2 hcl hf hty hn hd) kk h3 (fun w K cc x ⟨u, hc, hu⟩ => h4 _ _ _ _ _ _ _ hc hu) (fun _ _ => trivial)

/-- A text's variable is first empty. -/
theorem RdV.empty {sp off id d : Nat} {u : Value} {ty : TypeId} {p : String} {e : Array Edge} {f : F} {c : Code} (hd : d < E.N) (hcl : clear (sp :: E.slots) (Code.region id #[⟨some d, .assign (.const u), ty, p, e, none⟩] false) = true) (h : RdV tags E v flex ht sp off f c) :
    RdV tags E v flex ht sp off f ((Code.region id #[⟨some d, .assign (.const u), ty, p, e, none⟩] false).seq c) :=
  Rd.before hcl (fun a w Q ha hq => reg_const (by rw [ha]; exact hd) fun a' hu _ => hq a' hu) h
end
end Go.Proofs.YtpknjenihcfhlaaDoor
