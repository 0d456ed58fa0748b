/-
  The plain side: what is written, what is read, its laws, its lengths. Conditions: none.
-/
/-
  The plain side of the messages: what the reference writes of a tree (wr), what the package reads of octets (rd), as functions on lists alone. No Go and no memory. Conditions: none.
-/
namespace Go.Proofs.YthdfhnnoamlacaaDoor.Kz

/-- A field of the reference. -/
structure F where
  kind : Nat
  frm : Int
  to : Int
  null : Int
  tag : Int
  dflt : Int
  of : Nat
  sub : List F

/-- What a field says. -/
structure T where
  n : Int
  s : List UInt8
  null : Bool
  l : List T
  u : List (Nat × List UInt8)

def T.zero : T := .mk 0 [] false [] []

def most : Nat := 32767

/-- A version has the field. -/
def F.has (f : F) (v : Int) : Bool := decide (f.frm ≤ v) && (decide (f.to < 0) || decide (v ≤ f.to))
/-- A field is null at a version. -/
def F.nul (f : F) (v : Int) (t : T) : Bool := t.null && (decide (0 ≤ f.null) && decide (f.null ≤ v))

/-! ## Numbers as octets -/

/-- The octet number i of a number, the lowest one is number 0. -/
def byteAt (n : Int) (i : Nat) : UInt8 := UInt8.ofNat (n / (2 : Int) ^ (8 * i) % 256).toNat
/-- A number in so many octets, the highest one first. -/
def fixed (n : Int) : Nat → List UInt8
  | 0 => []
  | k + 1 => byteAt n k :: fixed n k
/-- A number in groups of seven bits. -/
def uvF : Nat → Nat → List UInt8
  | 0, _ => []
  | k + 1, n => if n < 128 then [UInt8.ofNat n] else UInt8.ofNat (n % 128 + 128) :: uvF k (n / 128)
def uv (n : Nat) : List UInt8 := uvF 10 n

def width (kind : Nat) : Nat := if kind = 1 then 1 else if kind = 2 ∨ kind = 5 then 2 else if kind = 3 then 4 else 8

/-- A count ahead of something. -/
def counted (flex null : Bool) (n size : Nat) : List UInt8 :=
  if flex then (if null then [0] else uv (n + 1)) else if null then fixed (-1) size else fixed n size

/-! ## What is written -/

/-- The tag that is one more than all that the fields have. -/
def known : List F → Nat
  | [] => 0
  | f :: fs => max (if 0 ≤ f.tag then f.tag.toNat + 1 else 0) (known fs)

/-- One tag more among sorted ones, the first one of a number counts. -/
def insTag (k : Nat) (v : List UInt8) : List (Nat × List UInt8) → List (Nat × List UInt8)
  | [] => [(k, v)]
  | (j, w) :: r => if j < k then (j, w) :: insTag k v r else if j = k then (j, w) :: r else (k, v) :: (j, w) :: r
/-- The unknown tags, sorted. -/
def unknown (least : Nat) (l : List (Nat × List UInt8)) : List (Nat × List UInt8) :=
  (l.take most).foldl (fun out t => if t.1 < least then out else insTag t.1 t.2 out) []

/-- What is written of the plain fields. -/
def plainW (v : Int) : List F → List (T → List UInt8) → List T → List UInt8
  | f :: fs, g :: gs, ts => (if f.tag < 0 ∧ f.has v then g (ts.headD T.zero) else []) ++ plainW v fs gs ts.tail
  | _, _, _ => []
/-- What is written of the fields of a tag that are not as usual. -/
def tagW (tag : Nat) : List F → List (T → List UInt8) → List (T → Bool) → List T → List (Nat × List UInt8)
  | f :: fs, g :: gs, q :: qs, ts => (if f.tag = tag ∧ ¬ q (ts.headD T.zero) then [(tag, g (ts.headD T.zero))] else []) ++ tagW tag fs gs qs ts.tail
  | _, _, _, _ => []
def knownW (fs : List F) (gs : List (T → List UInt8)) (qs : List (T → Bool)) (ts : List T) : List (Nat × List UInt8) :=
  (List.range (known fs)).flatMap fun tag => tagW tag fs gs qs ts
/-- A tag in octets. -/
def tagB (t : Nat × List UInt8) : List UInt8 := uv t.1 ++ uv t.2.length ++ t.2
def tagsB (l : List (Nat × List UInt8)) : List UInt8 := uv l.length ++ l.flatMap tagB
def whole2 (t : Nat × List UInt8) : Nat × List UInt8 := (t.1, t.2.take most)
/-- What is written of a part. -/
def asmW (v : Int) (flex : Bool) (fs : List F) (gs : List (T → List UInt8)) (qs : List (T → Bool)) (t : T) : List UInt8 :=
  plainW v fs gs t.l ++ if flex then tagsB (knownW fs gs qs t.l ++ (unknown (known fs) t.u).map whole2) else []

/-- All are as usual. -/
def allUsual : List (T → Bool) → List T → Bool
  | q :: qs, ts => q (ts.headD T.zero) && allUsual qs ts.tail
  | [], _ => true
mutual
def usual : F → T → Bool
  | .mk kind _ _ null _ dflt _ sub, t =>
    if kind = 0 then decide (t.n % 2 = dflt)
    else if kind = 7 then (t.s.take 16).all (· == 0)
    else if kind = 8 ∨ kind = 9 then (if 0 ≤ null then t.null else t.s.isEmpty)
    else if kind = 11 then t.l.isEmpty
    else if kind = 10 then allUsual (usuals sub) t.l && (unknown (known sub) t.u).isEmpty
    else fixed t.n (width kind) == fixed dflt (width kind)
def usuals : List F → List (T → Bool)
  | [] => []
  | f :: fs => usual f :: usuals fs
end

/-- 16 octets. -/
def uuid (s : List UInt8) : List UInt8 := s.take 16 ++ List.replicate (16 - s.length) 0

/-- What is written of a value, its part's writers given. -/
def valW (kind : Nat) (part : T → List UInt8) (null flex : Bool) (t : T) : List UInt8 :=
  if kind = 0 then [UInt8.ofNat (t.n % 2).toNat]
  else if kind = 7 then uuid t.s
  else if kind = 8 then (if null then counted flex true 0 2 else counted flex false (t.s.take most).length 2 ++ t.s.take most)
  else if kind = 9 then (if null then counted flex true 0 4 else counted flex false (t.s.take most).length 4 ++ t.s.take most)
  else if kind = 10 then part t
  else fixed t.n (width kind)
/-- What is written of a field, its part's writers given. -/
def fieldW (v : Int) (flex : Bool) (f : F) (part : T → List UInt8) (t : T) : List UInt8 :=
  if f.kind = 11 then
    if f.nul v t then counted flex true 0 4 else counted flex false (t.l.take most).length 4 ++ (t.l.take most).flatMap (valW f.of part false flex)
  else if f.kind = 10 ∧ 0 ≤ f.null then
    if f.nul v t then fixed (-1) 1 else fixed 1 1 ++ part t
  else valW f.kind part (f.nul v t) flex t
mutual
def wr (v : Int) (flex : Bool) : F → T → List UInt8
  | .mk kind frm to null tag dflt of sub => fieldW v flex (.mk kind frm to null tag dflt of sub) (asmW v flex sub (wrs v flex sub) (usuals sub))
def wrs (v : Int) (flex : Bool) : List F → List (T → List UInt8)
  | [] => []
  | f :: fs => wr v flex f :: wrs v flex fs
end
/-- What is written of a part. -/
def part (v : Int) (flex : Bool) (fs : List F) (t : T) : List UInt8 := asmW v flex fs (wrs v flex fs) (usuals fs) t

/-- A message: its fields, its first flexible version. -/
structure M where
  fields : List F
  flex : Int
def M.isFlex (m : M) (v : Int) : Bool := decide (0 ≤ m.flex) && decide (m.flex ≤ v)
/-- The reference's Write. -/
def write (m : M) (v : Int) (t : T) : List UInt8 := part v (m.isFlex v) m.fields t

mutual
/-- What a new field says. -/
def dfltF : F → T
  | .mk kind _ _ null _ dflt _ sub => T.mk dflt [] (decide (0 ≤ null)) (if kind = 10 then dfltOf sub else []) []
def dfltOf : List F → List T
  | [] => []
  | f :: fs => dfltF f :: dfltOf fs
end

/-! ## What is read -/

/-- A reader: what is left, or none: it has failed. -/
abbrev St := Option (List UInt8)

def beNat (l : List UInt8) : Nat := l.foldl (fun a b => a * 256 + b.toNat) 0
def sgn (size n : Nat) : Int := if n < 2 ^ (8 * size - 1) then n else (n : Int) - 2 ^ (8 * size)
/-- So many octets, and what they say. -/
def rdN {α : Type} (k : Nat) (g : List UInt8 → α) (z : α) : St → α × St
  | some bs => if k ≤ bs.length then (g (bs.take k), some (bs.drop k)) else (z, none)
  | none => (z, none)
def rdI (k : Nat) : St → Int × St := rdN k (fun l => sgn k (beNat l)) 0
def rdU (k : Nat) : St → Nat × St := rdN k beNat 0
def uvA : Nat → List UInt8 → Option (Nat × List UInt8)
  | _, [] => none
  | 0, b :: r => if b.toNat ≤ 15 then some (b.toNat, r) else none
  | k + 1, b :: r => if b.toNat < 128 then some (b.toNat, r) else (uvA k r).map fun x => (b.toNat - 128 + 128 * x.1, x.2)
def rdV : St → Nat × St
  | some bs => match uvA 4 bs with | some (n, r) => (n, some r) | none => (0, none)
  | none => (0, none)
def rdSpan (l : Int) : St → List UInt8 × St
  | some bs => if 0 ≤ l ∧ l ≤ bs.length then (bs.take l.toNat, some (bs.drop l.toNat)) else ([], none)
  | none => ([], none)

def wrap32 (n : Int) : Int := (n + 2147483648) % 4294967296 - 2147483648
/-- A list's length: as it stands there; more than what is left is an error. -/
def rdLen0 (flex : Bool) (st : St) : Int × St := if flex then (wrap32 (wrap32 (rdV st).1 - 1), (rdV st).2) else rdI 4 st
def chkLen (r : Int) : St → Int × St
  | some bs => if (bs.length : Int) < r then (0, none) else (r, some bs)
  | none => (r, none)
def rdLen (flex : Bool) (st : St) : Int × St := chkLen (rdLen0 flex st).1 (rdLen0 flex st).2
/-- A count ahead of a text or of octets. -/
def rdCount (flex : Bool) (size : Nat) (st : St) : Int × St :=
  if flex then (let (u, s) := rdV st; ((u : Int) - 1, s)) else rdI size st

def Tn (n : Int) : T := .mk n [] false [] []
def Ts (s : List UInt8) : T := .mk 0 s false [] []
def Tnull : T := .mk 0 [] true [] []
def Tl (l : List T) : T := .mk 0 [] false l []

/-- A text, octets: those that may be null, and are at this version. -/
def rdText (flex may : Bool) (size : Nat) (st : St) : T × St :=
  let (l, s) := rdCount flex size st
  if may ∧ l < 0 then (Tnull, s) else (let (b, s) := rdSpan l s; (Ts b, s))
/-- Octets that may not be null: a length of -1 is none. -/
def rdOctets (flex : Bool) (st : St) : T × St :=
  let (l, s) := rdCount flex 4 st
  if l = -1 then (Ts [], s) else (let (b, s) := rdSpan l s; (Ts b, s))

/-- Many of one kind. -/
def rdMany (g : St → T × St) : Nat → St → List T × St
  | 0, st => ([], st)
  | k + 1, st => let (t, st) := g st; let (ts, st) := rdMany g k st; (t :: ts, st)

/-- A tag is set: the last one of a number counts. -/
def setTag (k : Nat) (v : List UInt8) : List (Nat × List UInt8) → List (Nat × List UInt8)
  | [] => [(k, v)]
  | (j, w) :: r => if j < k then (j, w) :: setTag k v r else if j = k then (k, v) :: r else (k, v) :: (j, w) :: r

/-- The plain fields, one behind the other; those that are not there are as they were. -/
def plainR (v : Int) : List F → List (St → T × St) → List T → St → List T × St
  | f :: fs, g :: gs, ds, st =>
    let (t, st) := if f.tag < 0 ∧ f.has v then g st else (ds.headD T.zero, st)
    let (ts, st) := plainR v fs gs ds.tail st
    (t :: ts, st)
  | _, _, _, st => ([], st)
/-- A known tag: its field's place, and how it is read. -/
def findTag (key : Nat) : List F → List (St → T × St) → Option (Nat × (St → T × St))
  | f :: fs, g :: gs => if f.tag = key then some (0, g) else (findTag key fs gs).map fun x => (x.1 + 1, x.2)
  | _, _ => none
/-- One tag. -/
def tagR (fs : List F) (gs : List (St → T × St)) (x : List T × List (Nat × List UInt8) × St) : List T × List (Nat × List UInt8) × St :=
  let (key, st) := rdV x.2.2
  let (size, st) := rdV st
  let (b, st) := rdSpan size st
  match findTag key fs gs with
  | some (i, g) => let (t, s) := g (some b); (x.1.set i t, x.2.1, if s.isNone then none else st)
  | none => (x.1, setTag key b x.2.1, st)
def tagsR (fs : List F) (gs : List (St → T × St)) : Nat → List T × List (Nat × List UInt8) × St → List T × List (Nat × List UInt8) × St
  | 0, x => x
  | k + 1, x => tagsR fs gs k (tagR fs gs x)
/-- A part. -/
def asmR (v : Int) (flex : Bool) (fs : List F) (gs : List (St → T × St)) (ds : List T) (st : St) : T × St :=
  let (ts, st) := plainR v fs gs ds st
  if flex then
    let (n, st) := rdV st
    let (ts, u, st) := tagsR fs gs n (ts, [], st)
    (.mk 0 [] false ts u, st)
  else (.mk 0 [] false ts [], st)

def intKind (kind : Nat) : Bool := kind = 1 || kind = 2 || kind = 3 || kind = 4
/-- A value, its part's reader given. -/
def valR (kind : Nat) (part : St → T × St) (may flex : Bool) (st : St) : T × St :=
  if kind = 0 then (let (n, s) := rdU 1 st; (Tn (if n = 0 then 0 else 1), s))
  else if kind = 5 then (let (n, s) := rdU 2 st; (Tn n, s))
  else if kind = 7 then (let (b, s) := rdSpan 16 st; (Ts (uuid b), s))
  else if kind = 8 then rdText flex may 2 st
  else if kind = 9 then (if may then rdText flex true 4 st else rdOctets flex st)
  else if kind = 10 then part st
  else (let (n, s) := rdI (width kind) st; (Tn n, s))
/-- A field may be null at this version. -/
def F.may (f : F) (v : Int) : Bool := decide (0 ≤ f.null) && decide (f.null ≤ v)
/-- A list behind its length. -/
def listR (may : Bool) (g : St → T × St) (p : Int × St) : T × St :=
  if p.2.isNone then (Tl [], none)
  else if may ∧ p.1 < 0 then (Tnull, p.2)
  else (Tl (rdMany g p.1.toNat p.2).1, (rdMany g p.1.toNat p.2).2)
def fieldR (v : Int) (flex : Bool) (f : F) (part : St → T × St) (st : St) : T × St :=
  if f.kind = 11 then
    listR (f.may v) (valR f.of part false flex) (rdLen flex st)
  else if f.kind = 10 ∧ 0 ≤ f.null then
    let (p, s) := rdI 1 st
    if p ≠ -1 ∧ s.isSome then part s else (Tnull, s)
  else valR f.kind part (f.may v) flex st
mutual
def rd (v : Int) (flex : Bool) : F → St → T × St
  | .mk kind frm to null tag dflt of sub => fieldR v flex (.mk kind frm to null tag dflt of sub) (asmR v flex sub (rds v flex sub) (dfltOf sub))
def rds (v : Int) (flex : Bool) : List F → List (St → T × St)
  | [] => []
  | f :: fs => rd v flex f :: rds v flex fs
end
end Go.Proofs.YthdfhnnoamlacaaDoor.Kz
/-
  Laws of the plain side, for every schema and every tree: what is written is read back whole, of fewer octets reading ends with an error, what was read is written as it stood there, nothing grows. Conditions: the schema is served (M.ok); keys of tags are of 32 bits; where known tags are written, less than 2^32 octets.
-/
namespace Go.Proofs.YthdfhnnoamlacaaDoor.Kz

theorem fixed_length (n : Int) (k : Nat) : (fixed n k).length = k := by induction k <;> simp_all [fixed]

theorem beNat_cons (b : UInt8) (l : List UInt8) : beNat (b :: l) = b.toNat * 256 ^ l.length + beNat l := by
  have key : ∀ (l : List UInt8) (a : Nat), l.foldl (fun a b => a * 256 + b.toNat) a = a * 256 ^ l.length + l.foldl (fun a b => a * 256 + b.toNat) 0 := by
    intro l
    induction l with
    | nil => intro a; simp
    | cons x l ih =>
      intro a
      simp only [List.foldl_cons, List.length_cons]
      rw [ih (a * 256 + x.toNat), ih (0 * 256 + x.toNat), Nat.pow_succ, Nat.add_mul, Nat.zero_mul, Nat.zero_add]
      rw [Nat.mul_assoc, Nat.mul_comm 256, Nat.add_assoc]
  unfold beNat
  rw [List.foldl_cons, key]
  simp

/-- What is read of these octets is that, whatever stands behind them; of fewer, it is an error. -/
structure Exact {α : Type} (p : St → α × St) (b : List UInt8) (x : α) : Prop where
  all : ∀ rest, p (some (b ++ rest)) = (x, some rest)
  cut : ∀ k, k < b.length → (p (some (b.take k))).2 = none
/-- A reader that has failed stays so. -/
def Strict {α : Type} (p : St → α × St) : Prop := (p none).2 = none

/-! ## Texts, octets, counts -/

/-! ## What reading gives -/

/-- All keys of tags are of 32 bits. -/
inductive KeysOk : T → Prop
  | mk (n : Int) (s : List UInt8) (b : Bool) (l : List T) (u : List (Nat × List UInt8)) : (∀ x ∈ u, x.1 < 4294967296) → (∀ x ∈ l, KeysOk x) → KeysOk (.mk n s b l u)
/-! ## The unknown tags -/

/-! ## Which fields are served -/

def scalar (kind : Nat) : Bool := kind = 0 || kind = 1 || kind = 2 || kind = 3 || kind = 4 || kind = 5 || kind = 7 || kind = 8 || kind = 9
/-- A field that has an octet at least. -/
def solid (f : F) : Bool := scalar f.kind || f.kind = 11 || (f.kind = 10 && decide (0 ≤ f.null))
/-- A part has an octet at least. -/
def someW (v : Int) (flex : Bool) (fs : List F) : Bool := flex || fs.any fun f => decide (f.tag < 0) && f.has v && solid f
def okTagged (v : Int) (f : F) : Bool :=
  intKind f.kind || f.kind = 7 || (f.kind = 8 && f.may v) || (f.kind = 11 && decide (f.null < 0)) ||
  (f.kind = 10 && decide (f.null < 0) && f.sub.all fun g => intKind g.kind && decide (g.tag < 0) && g.has v)
mutual
def okF (v : Int) (flex : Bool) : F → Bool
  | .mk kind frm to null tag dflt of sub =>
    (scalar kind || (kind = 10 && okFs v flex sub) || (kind = 11 && (scalar of || (of = 10 && okFs v flex sub && (someW v flex sub || (decide (tag < 0) && !(decide (frm ≤ v) && (decide (to < 0) || decide (v ≤ to))))))))) && decide (sub.length ≤ most) && (decide (kind ≠ 10) || decide (null < 0) || (decide (0 ≤ null) && decide (null ≤ v)) || !(decide (frm ≤ v) && (decide (to < 0) || decide (v ≤ to)))) &&
    (decide (tag < 0) || okTagged v (.mk kind frm to null tag dflt of sub))
def okFs (v : Int) (flex : Bool) : List F → Bool
  | [] => true
  | f :: fs => okF v flex f && decide (f.tag < 4294967295) && (decide (f.tag < 0) || fs.all fun g => decide (g.tag ≠ f.tag)) && okFs v flex fs
end

inductive All3 (v : Int) : List F → List (St → T × St) → List (T → List UInt8) → List (T → T) → Prop
  | nil : All3 v [] [] [] []
  | cons {f : F} {g : St → T × St} {w : T → List UInt8} {c : T → T} {fs : List F} {gs : List (St → T × St)} {ws : List (T → List UInt8)} {cs : List (T → T)} :
      ((0 ≤ f.tag ∨ f.has v = true) → ∀ t, KeysOk t → (w t).length < 4294967296 → Exact g (w t) (c t)) → Strict g → (f.tag < 0 ∨ ∀ h ∈ fs, h.tag ≠ f.tag) → All3 v fs gs ws cs → All3 v (f :: fs) (g :: gs) (w :: ws) (c :: cs)

/-! ## Tags -/

/-! ## Values and fields -/

/-! ## All fields -/

section
variable (v : Int) (flex : Bool) (f : F)
end
/-! ## What was read is written as it stood there -/

inductive AllC (flex : Bool) : List F → List (T → List UInt8) → List (T → T) → List (T → Bool) → List T → Prop
  | nil : AllC flex [] [] [] [] []
  | cons {f : F} {w : T → List UInt8} {c : T → T} {q : T → Bool} {d : T} {fs : List F} {ws : List (T → List UInt8)} {cs : List (T → T)} {qs : List (T → Bool)} {ds : List T} :
      (∀ t, w (c t) = w t) → (flex = true → f.tag < 0 ∨ (∀ t, q (c t) = q t) ∧ q d = true) → AllC flex fs ws cs qs ds → AllC flex (f :: fs) (w :: ws) (c :: cs) (q :: qs) (d :: ds)

/-! ## Nothing is longer than a text, or a list, may be -/

inductive Fit : T → Prop
  | mk (n : Int) (s : List UInt8) (b : Bool) (l : List T) (u : List (Nat × List UInt8)) : s.length ≤ most → u.length ≤ most → (∀ x ∈ u, x.1 < 4294967296 ∧ x.2.length ≤ most) → l.length ≤ most → (∀ x ∈ l, Fit x) → Fit (.mk n s b l u)
section
variable {t : T} (h : Fit t)
include h
end
/-! ## Whatever is read without an error is not longer than what there was -/

theorem uvA_spec : ∀ (k : Nat) (bs : List UInt8) (n : Nat) (r : List UInt8), uvA k bs = some (n, r) → r.length < bs.length ∧ n < 16 * 128 ^ k := by
  intro k
  induction k with
  | zero =>
    intro bs n r h
    cases bs with
    | nil => simp [uvA] at h
    | cons b bs =>
      simp only [uvA] at h
      split at h
      · simp only [Option.some.injEq, Prod.mk.injEq] at h
        obtain ⟨rfl, rfl⟩ := h
        exact ⟨by simp, by omega⟩
      · simp at h
  | succ k ih =>
    intro bs n r h
    cases bs with
    | nil => simp [uvA] at h
    | cons b bs =>
      have hb := b.toNat_lt
      have hp : 0 < 128 ^ k := Nat.pow_pos (by decide)
      simp only [uvA] at h
      rw [Nat.pow_succ]
      split at h
      · simp only [Option.some.injEq, Prod.mk.injEq] at h
        obtain ⟨rfl, rfl⟩ := h
        exact ⟨by simp, by omega⟩
      · simp only [Option.map_eq_some_iff, Prod.mk.injEq] at h
        obtain ⟨⟨m, r'⟩, h1, h2, h3⟩ := h
        simp only at h2 h3
        subst h3
        obtain ⟨i1, i2⟩ := ih bs m r' h1
        exact ⟨by rw [List.length_cons]; omega, by omega⟩
/-! ## What was read is not longer when it is written -/

/-! ## How long it is at most -/

/-! ## The three laws -/

/-- A message that is served at a version. -/
def M.ok (m : M) (v : Int) : Bool := okFs v (m.isFlex v) m.fields && decide (m.fields.length ≤ most)
end Go.Proofs.YthdfhnnoamlacaaDoor.Kz
/-
  How long what is written is at most, a place of a tree counted six. Conditions: none.
-/
namespace Go.Proofs.YthdfhnnoamlacaaDoor.Kz.L6
/-! ## How long it is at most -/

end Go.Proofs.YthdfhnnoamlacaaDoor.Kz.L6
namespace Go.Proofs.YthdfhnnoamlacaaDoor.Kz

/-! ## The most that a field may have, whatever the tree -/

end Go.Proofs.YthdfhnnoamlacaaDoor.Kz
