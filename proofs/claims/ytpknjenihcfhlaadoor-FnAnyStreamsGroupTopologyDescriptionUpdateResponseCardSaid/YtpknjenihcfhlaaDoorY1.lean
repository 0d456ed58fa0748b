/-
  The plain side: what is written, what is read, its laws, its lengths. Conditions: none.
-/
/-
  The plain side of the messages: what the reference writes of a tree (wr), what the package reads of octets (rd), as functions on lists alone. No Go and no memory. Conditions: none.
-/
namespace Go.Proofs.YtpknjenihcfhlaaDoor.Kz

/-- A field of the reference. -/
structure F where
  kind : Nat
  frm : Int
  to : Int
  null : Int
  tag : Int
  dflt : Int
  of : Nat
  sub : List F

/-- What a field says. -/
structure T where
  n : Int
  s : List UInt8
  null : Bool
  l : List T
  u : List (Nat × List UInt8)

def T.zero : T := .mk 0 [] false [] []

def most : Nat := 32767

/-- A version has the field. -/
def F.has (f : F) (v : Int) : Bool := decide (f.frm ≤ v) && (decide (f.to < 0) || decide (v ≤ f.to))
/-- A field is null at a version. -/
def F.nul (f : F) (v : Int) (t : T) : Bool := t.null && (decide (0 ≤ f.null) && decide (f.null ≤ v))

/-! ## Numbers as octets -/

/-- The octet number i of a number, the lowest one is number 0. -/
def byteAt (n : Int) (i : Nat) : UInt8 := UInt8.ofNat (n / (2 : Int) ^ (8 * i) % 256).toNat
/-- A number in so many octets, the highest one first. -/
def fixed (n : Int) : Nat → List UInt8
  | 0 => []
  | k + 1 => byteAt n k :: fixed n k
/-- A number in groups of seven bits. -/
def uvF : Nat → Nat → List UInt8
  | 0, _ => []
  | k + 1, n => if n < 128 then [UInt8.ofNat n] else UInt8.ofNat (n % 128 + 128) :: uvF k (n / 128)
def uv (n : Nat) : List UInt8 := uvF 10 n

def width (kind : Nat) : Nat := if kind = 1 then 1 else if kind = 2 ∨ kind = 5 then 2 else if kind = 3 then 4 else 8

/-- A count ahead of something. -/
def counted (flex null : Bool) (n size : Nat) : List UInt8 :=
  if flex then (if null then [0] else uv (n + 1)) else if null then fixed (-1) size else fixed n size

/-! ## What is written -/

/-- The tag that is one more than all that the fields have. -/
def known : List F → Nat
  | [] => 0
  | f :: fs => max (if 0 ≤ f.tag then f.tag.toNat + 1 else 0) (known fs)

/-- One tag more among sorted ones, the first one of a number counts. -/
def insTag (k : Nat) (v : List UInt8) : List (Nat × List UInt8) → List (Nat × List UInt8)
  | [] => [(k, v)]
  | (j, w) :: r => if j < k then (j, w) :: insTag k v r else if j = k then (j, w) :: r else (k, v) :: (j, w) :: r
/-- The unknown tags, sorted. -/
def unknown (least : Nat) (l : List (Nat × List UInt8)) : List (Nat × List UInt8) :=
  (l.take most).foldl (fun out t => if t.1 < least then out else insTag t.1 t.2 out) []

/-- What is written of the plain fields. -/
def plainW (v : Int) : List F → List (T → List UInt8) → List T → List UInt8
  | f :: fs, g :: gs, ts => (if f.tag < 0 ∧ f.has v then g (ts.headD T.zero) else []) ++ plainW v fs gs ts.tail
  | _, _, _ => []
/-- What is written of the fields of a tag that are not as usual. -/
def tagW (tag : Nat) : List F → List (T → List UInt8) → List (T → Bool) → List T → List (Nat × List UInt8)
  | f :: fs, g :: gs, q :: qs, ts => (if f.tag = tag ∧ ¬ q (ts.headD T.zero) then [(tag, g (ts.headD T.zero))] else []) ++ tagW tag fs gs qs ts.tail
  | _, _, _, _ => []
def knownW (fs : List F) (gs : List (T → List UInt8)) (qs : List (T → Bool)) (ts : List T) : List (Nat × List UInt8) :=
  (List.range (known fs)).flatMap fun tag => tagW tag fs gs qs ts
/-- A tag in octets. -/
def tagB (t : Nat × List UInt8) : List UInt8 := uv t.1 ++ uv t.2.length ++ t.2
def tagsB (l : List (Nat × List UInt8)) : List UInt8 := uv l.length ++ l.flatMap tagB
def whole2 (t : Nat × List UInt8) : Nat × List UInt8 := (t.1, t.2.take most)
/-- What is written of a part. -/
def asmW (v : Int) (flex : Bool) (fs : List F) (gs : List (T → List UInt8)) (qs : List (T → Bool)) (t : T) : List UInt8 :=
  plainW v fs gs t.l ++ if flex then tagsB (knownW fs gs qs t.l ++ (unknown (known fs) t.u).map whole2) else []

/-- All are as usual. -/
def allUsual : List (T → Bool) → List T → Bool
  | q :: qs, ts => q (ts.headD T.zero) && allUsual qs ts.tail
  | [], _ => true
mutual
def usual : F → T → Bool
  | .mk kind _ _ null _ dflt _ sub, t =>
    if kind = 0 then decide (t.n % 2 = dflt)
    else if kind = 7 then (t.s.take 16).all (· == 0)
    else if kind = 8 ∨ kind = 9 then (if 0 ≤ null then t.null else t.s.isEmpty)
    else if kind = 11 then t.l.isEmpty
    else if kind = 10 then allUsual (usuals sub) t.l && (unknown (known sub) t.u).isEmpty
    else fixed t.n (width kind) == fixed dflt (width kind)
def usuals : List F → List (T → Bool)
  | [] => []
  | f :: fs => usual f :: usuals fs
end

/-- 16 octets. -/
def uuid (s : List UInt8) : List UInt8 := s.take 16 ++ List.replicate (16 - s.length) 0

/-- What is written of a value, its part's writers given. -/
def valW (kind : Nat) (part : T → List UInt8) (null flex : Bool) (t : T) : List UInt8 :=
  if kind = 0 then [UInt8.ofNat (t.n % 2).toNat]
  else if kind = 7 then uuid t.s
  else if kind = 8 then (if null then counted flex true 0 2 else counted flex false (t.s.take most).length 2 ++ t.s.take most)
  else if kind = 9 then (if null then counted flex true 0 4 else counted flex false (t.s.take most).length 4 ++ t.s.take most)
  else if kind = 10 then part t
  else fixed t.n (width kind)
/-- What is written of a field, its part's writers given. -/
def fieldW (v : Int) (flex : Bool) (f : F) (part : T → List UInt8) (t : T) : List UInt8 :=
  if f.kind = 11 then
    if f.nul v t then counted flex true 0 4 else counted flex false (t.l.take most).length 4 ++ (t.l.take most).flatMap (valW f.of part false flex)
  else if f.kind = 10 ∧ 0 ≤ f.null then
    if f.nul v t then fixed (-1) 1 else fixed 1 1 ++ part t
  else valW f.kind part (f.nul v t) flex t
mutual
def wr (v : Int) (flex : Bool) : F → T → List UInt8
  | .mk kind frm to null tag dflt of sub => fieldW v flex (.mk kind frm to null tag dflt of sub) (asmW v flex sub (wrs v flex sub) (usuals sub))
def wrs (v : Int) (flex : Bool) : List F → List (T → List UInt8)
  | [] => []
  | f :: fs => wr v flex f :: wrs v flex fs
end
/-- What is written of a part. -/
def part (v : Int) (flex : Bool) (fs : List F) (t : T) : List UInt8 := asmW v flex fs (wrs v flex fs) (usuals fs) t

/-- A message: its fields, its first flexible version. -/
structure M where
  fields : List F
  flex : Int
def M.isFlex (m : M) (v : Int) : Bool := decide (0 ≤ m.flex) && decide (m.flex ≤ v)
/-- The reference's Write. -/
def write (m : M) (v : Int) (t : T) : List UInt8 := part v (m.isFlex v) m.fields t

mutual
/-- What a new field says. -/
def dfltF : F → T
  | .mk kind _ _ null _ dflt _ sub => T.mk dflt [] (decide (0 ≤ null)) (if kind = 10 then dfltOf sub else []) []
def dfltOf : List F → List T
  | [] => []
  | f :: fs => dfltF f :: dfltOf fs
end

/-! ## What is read -/

/-- A reader: what is left, or none: it has failed. -/
abbrev St := Option (List UInt8)

def beNat (l : List UInt8) : Nat := l.foldl (fun a b => a * 256 + b.toNat) 0
def sgn (size n : Nat) : Int := if n < 2 ^ (8 * size - 1) then n else (n : Int) - 2 ^ (8 * size)
/-- So many octets, and what they say. -/
def rdN {α : Type} (k : Nat) (g : List UInt8 → α) (z : α) : St → α × St
  | some bs => if k ≤ bs.length then (g (bs.take k), some (bs.drop k)) else (z, none)
  | none => (z, none)
def rdI (k : Nat) : St → Int × St := rdN k (fun l => sgn k (beNat l)) 0
def rdU (k : Nat) : St → Nat × St := rdN k beNat 0
def uvA : Nat → List UInt8 → Option (Nat × List UInt8)
  | _, [] => none
  | 0, b :: r => if b.toNat ≤ 15 then some (b.toNat, r) else none
  | k + 1, b :: r => if b.toNat < 128 then some (b.toNat, r) else (uvA k r).map fun x => (b.toNat - 128 + 128 * x.1, x.2)
def rdV : St → Nat × St
  | some bs => match uvA 4 bs with | some (n, r) => (n, some r) | none => (0, none)
  | none => (0, none)
def rdSpan (l : Int) : St → List UInt8 × St
  | some bs => if 0 ≤ l ∧ l ≤ bs.length then (bs.take l.toNat, some (bs.drop l.toNat)) else ([], none)
  | none => ([], none)

def wrap32 (n : Int) : Int := (n + 2147483648) % 4294967296 - 2147483648
/-- A list's length: as it stands there; more than what is left is an error. -/
def rdLen0 (flex : Bool) (st : St) : Int × St := if flex then (wrap32 (wrap32 (rdV st).1 - 1), (rdV st).2) else rdI 4 st
def chkLen (r : Int) : St → Int × St
  | some bs => if (bs.length : Int) < r then (0, none) else (r, some bs)
  | none => (r, none)
def rdLen (flex : Bool) (st : St) : Int × St := chkLen (rdLen0 flex st).1 (rdLen0 flex st).2
/-- A count ahead of a text or of octets. -/
def rdCount (flex : Bool) (size : Nat) (st : St) : Int × St :=
  if flex then (let (u, s) := rdV st; ((u : Int) - 1, s)) else rdI size st

def Tn (n : Int) : T := .mk n [] false [] []
def Ts (s : List UInt8) : T := .mk 0 s false [] []
def Tnull : T := .mk 0 [] true [] []
def Tl (l : List T) : T := .mk 0 [] false l []

/-- A text, octets: those that may be null, and are at this version. -/
def rdText (flex may : Bool) (size : Nat) (st : St) : T × St :=
  let (l, s) := rdCount flex size st
  if may ∧ l < 0 then (Tnull, s) else (let (b, s) := rdSpan l s; (Ts b, s))
/-- Octets that may not be null: a length of -1 is none. -/
def rdOctets (flex : Bool) (st : St) : T × St :=
  let (l, s) := rdCount flex 4 st
  if l = -1 then (Ts [], s) else (let (b, s) := rdSpan l s; (Ts b, s))

/-- Many of one kind. -/
def rdMany (g : St → T × St) : Nat → St → List T × St
  | 0, st => ([], st)
  | k + 1, st => let (t, st) := g st; let (ts, st) := rdMany g k st; (t :: ts, st)

/-- A tag is set: the last one of a number counts. -/
def setTag (k : Nat) (v : List UInt8) : List (Nat × List UInt8) → List (Nat × List UInt8)
  | [] => [(k, v)]
  | (j, w) :: r => if j < k then (j, w) :: setTag k v r else if j = k then (k, v) :: r else (k, v) :: (j, w) :: r

/-- The plain fields, one behind the other; those that are not there are as they were. -/
def plainR (v : Int) : List F → List (St → T × St) → List T → St → List T × St
  | f :: fs, g :: gs, ds, st =>
    let (t, st) := if f.tag < 0 ∧ f.has v then g st else (ds.headD T.zero, st)
    let (ts, st) := plainR v fs gs ds.tail st
    (t :: ts, st)
  | _, _, _, st => ([], st)
/-- A known tag: its field's place, and how it is read. -/
def findTag (key : Nat) : List F → List (St → T × St) → Option (Nat × (St → T × St))
  | f :: fs, g :: gs => if f.tag = key then some (0, g) else (findTag key fs gs).map fun x => (x.1 + 1, x.2)
  | _, _ => none
/-- One tag. -/
def tagR (fs : List F) (gs : List (St → T × St)) (x : List T × List (Nat × List UInt8) × St) : List T × List (Nat × List UInt8) × St :=
  let (key, st) := rdV x.2.2
  let (size, st) := rdV st
  let (b, st) := rdSpan size st
  match findTag key fs gs with
  | some (i, g) => let (t, s) := g (some b); (x.1.set i t, x.2.1, if s.isNone then none else st)
  | none => (x.1, setTag key b x.2.1, st)
def tagsR (fs : List F) (gs : List (St → T × St)) : Nat → List T × List (Nat × List UInt8) × St → List T × List (Nat × List UInt8) × St
  | 0, x => x
  | k + 1, x => tagsR fs gs k (tagR fs gs x)
/-- A part. -/
def asmR (v : Int) (flex : Bool) (fs : List F) (gs : List (St → T × St)) (ds : List T) (st : St) : T × St :=
  let (ts, st) := plainR v fs gs ds st
  if flex then
    let (n, st) := rdV st
    let (ts, u, st) := tagsR fs gs n (ts, [], st)
    (.mk 0 [] false ts u, st)
  else (.mk 0 [] false ts [], st)

def intKind (kind : Nat) : Bool := kind = 1 || kind = 2 || kind = 3 || kind = 4
/-- A value, its part's reader given. -/
def valR (kind : Nat) (part : St → T × St) (may flex : Bool) (st : St) : T × St :=
  if kind = 0 then (let (n, s) := rdU 1 st; (Tn (if n = 0 then 0 else 1), s))
  else if kind = 5 then (let (n, s) := rdU 2 st; (Tn n, s))
  else if kind = 7 then (let (b, s) := rdSpan 16 st; (Ts (uuid b), s))
  else if kind = 8 then rdText flex may 2 st
  else if kind = 9 then (if may then rdText flex true 4 st else rdOctets flex st)
  else if kind = 10 then part st
  else (let (n, s) := rdI (width kind) st; (Tn n, s))
/-- A field may be null at this version. -/
def F.may (f : F) (v : Int) : Bool := decide (0 ≤ f.null) && decide (f.null ≤ v)
/-- A list behind its length. -/
def listR (may : Bool) (g : St → T × St) (p : Int × St) : T × St :=
  if p.2.isNone then (Tl [], none)
  else if may ∧ p.1 < 0 then (Tnull, p.2)
  else (Tl (rdMany g p.1.toNat p.2).1, (rdMany g p.1.toNat p.2).2)
def fieldR (v : Int) (flex : Bool) (f : F) (part : St → T × St) (st : St) : T × St :=
  if f.kind = 11 then
    listR (f.may v) (valR f.of part false flex) (rdLen flex st)
  else if f.kind = 10 ∧ 0 ≤ f.null then
    let (p, s) := rdI 1 st
    if p ≠ -1 ∧ s.isSome then part s else (Tnull, s)
  else valR f.kind part (f.may v) flex st
mutual
def rd (v : Int) (flex : Bool) : F → St → T × St
  | .mk kind frm to null tag dflt of sub => fieldR v flex (.mk kind frm to null tag dflt of sub) (asmR v flex sub (rds v flex sub) (dfltOf sub))
def rds (v : Int) (flex : Bool) : List F → List (St → T × St)
  | [] => []
  | f :: fs => rd v flex f :: rds v flex fs
end
/-- A part is read. -/
def rdPart (v : Int) (flex : Bool) (fs : List F) (st : St) : T × St := asmR v flex fs (rds v flex fs) (dfltOf fs) st
/-- A message is read. -/
def M.read (m : M) (v : Int) (st : St) : T × St := rdPart v (m.isFlex v) m.fields st

end Go.Proofs.YtpknjenihcfhlaaDoor.Kz
/-
  Laws of the plain side, for every schema and every tree: what is written is read back whole, of fewer octets reading ends with an error, what was read is written as it stood there, nothing grows. Conditions: the schema is served (M.ok); keys of tags are of 32 bits; where known tags are written, less than 2^32 octets.
-/
namespace Go.Proofs.YtpknjenihcfhlaaDoor.Kz

theorem byteAt_toNat (n : Int) (i : Nat) : ((byteAt n i).toNat : Int) = n / 2 ^ (8 * i) % 256 := by
  unfold byteAt
  have h1 : 0 ≤ n / 2 ^ (8 * i) % 256 := Int.emod_nonneg _ (by decide)
  have h2 : n / 2 ^ (8 * i) % 256 < 256 := Int.emod_lt_of_pos _ (by decide)
  rw [UInt8.toNat_ofNat_of_lt' (by simp only [UInt8.size]; omega)]
  omega

theorem fixed_length (n : Int) (k : Nat) : (fixed n k).length = k := by induction k <;> simp_all [fixed]

theorem beNat_cons (b : UInt8) (l : List UInt8) : beNat (b :: l) = b.toNat * 256 ^ l.length + beNat l := by
  have key : ∀ (l : List UInt8) (a : Nat), l.foldl (fun a b => a * 256 + b.toNat) a = a * 256 ^ l.length + l.foldl (fun a b => a * 256 + b.toNat) 0 := by
    intro l
    induction l with
    | nil => intro a; simp
    | cons x l ih =>
      intro a
      simp only [List.foldl_cons, List.length_cons]
      rw [ih (a * 256 + x.toNat), ih (0 * 256 + x.toNat), Nat.pow_succ, Nat.add_mul, Nat.zero_mul, Nat.zero_add]
      rw [Nat.mul_assoc, Nat.mul_comm 256, Nat.add_assoc]
  unfold beNat
  rw [List.foldl_cons, key]
  simp

theorem emod_split (n p : Int) (h : 0 < p) : n % (p * 256) = n / p % 256 * p + n % p := by
  have hr := Int.emod_nonneg n (Int.ne_of_gt h)
  have hr2 := Int.emod_lt_of_pos n h
  have e := Int.mul_ediv_add_emod n p
  have e2 := Int.mul_ediv_add_emod (n / p) 256
  have h3 := Int.emod_nonneg (n / p) (show (256 : Int) ≠ 0 by decide)
  have h4 := Int.emod_lt_of_pos (n / p) (show (0 : Int) < 256 by decide)
  have hp : (0 : Int) < p * 256 := by omega
  refine ((Int.ediv_emod_unique (q := n / p / 256) hp).2 ⟨?_, ?_, ?_⟩).2
  · rw [← e]
    conv => rhs; rw [← e2]
    rw [e]
    generalize n / p / 256 = a
    generalize n / p % 256 = b
    rw [Int.mul_add, Int.mul_assoc, Int.mul_comm b p]
    omega
  · have := Int.mul_nonneg h3 (Int.le_of_lt h)
    omega
  · have : n / p % 256 * p ≤ 255 * p := Int.mul_le_mul_of_nonneg_right (by omega) (Int.le_of_lt h)
    omega

theorem beNat_fixed (n : Int) (k : Nat) : (beNat (fixed n k) : Int) = n % 2 ^ (8 * k) := by
  induction k with
  | zero => simp [fixed, beNat]
  | succ k ih =>
    rw [fixed, beNat_cons, fixed_length]
    rw [Int.natCast_add, Int.natCast_mul, Int.natCast_pow]
    rw [ih, byteAt_toNat]
    have e : ((256 : Nat) : Int) ^ k = 2 ^ (8 * k) := by rw [Int.pow_mul]; rfl
    rw [e]
    have hp : (0 : Int) < 2 ^ (8 * k) := Int.pow_pos (by decide)
    have e2 : (2 : Int) ^ (8 * (k + 1)) = 2 ^ (8 * k) * 256 := by rw [Nat.mul_add, Int.pow_add]; rfl
    rw [e2, emod_split _ _ hp]

/-- What a number of so many octets says. -/
def cn (k : Nat) (n : Int) : Int := sgn k (n % 2 ^ (8 * k)).toNat

theorem beNat_fixed' (n : Int) (k : Nat) : beNat (fixed n k) = (n % 2 ^ (8 * k)).toNat := by
  have := beNat_fixed n k; omega

theorem sgn_mod (k n : Nat) (h : n < 2 ^ (8 * k)) : (sgn k n) % 2 ^ (8 * k) = n := by
  unfold sgn
  have hp : (0 : Int) < 2 ^ (8 * k) := Int.pow_pos (by decide)
  have hc : ((2 ^ (8 * k) : Nat) : Int) = (2 : Int) ^ (8 * k) := by rw [Int.natCast_pow]; rfl
  have hn : (n : Int) < 2 ^ (8 * k) := by rw [← hc]; exact_mod_cast h
  split
  · exact Int.emod_eq_of_lt (by omega) hn
  · rw [Int.sub_emod_right]; exact Int.emod_eq_of_lt (by omega) hn

theorem byteAt_mod (n : Int) (k i : Nat) (h : i < k) : byteAt (n % 2 ^ (8 * k)) i = byteAt n i := by
  unfold byteAt
  have e : (2 : Int) ^ (8 * k) = 2 ^ (8 * i) * 2 ^ (8 * (k - i)) := by rw [← Int.pow_add]; congr 1; omega
  have hp : (0 : Int) < 2 ^ (8 * i) := Int.pow_pos (by decide)
  have e1 : n % 2 ^ (8 * k) / 2 ^ (8 * i) % 256 = n / 2 ^ (8 * i) % 256 := by
    rw [e]
    have hd : (256 : Int) ∣ 2 ^ (8 * (k - i)) := ⟨2 ^ (8 * (k - i - 1)), by rw [show (256 : Int) = 2 ^ 8 from rfl, ← Int.pow_add]; congr 1; omega⟩
    obtain ⟨c, hc⟩ := hd
    rw [hc]
    have h2 := Int.mul_ediv_add_emod n (2 ^ (8 * i) * (256 * c))
    generalize n / (2 ^ (8 * i) * (256 * c)) = q at h2
    generalize n % (2 ^ (8 * i) * (256 * c)) = r at h2
    rw [← h2]
    rw [show 2 ^ (8 * i) * (256 * c) * q = 2 ^ (8 * i) * (256 * c * q) by rw [Int.mul_assoc]]
    rw [Int.add_comm, Int.add_mul_ediv_left _ _ (by omega)]
    rw [Int.mul_assoc, Int.add_mul_emod_self_left]
  rw [e1]

theorem fixed_mod (n : Int) (k : Nat) : ∀ j, j ≤ k → fixed (n % 2 ^ (8 * k)) j = fixed n j := by
  intro j
  induction j with
  | zero => intro _; rfl
  | succ j ih => intro h; rw [fixed, fixed, ih (by omega), byteAt_mod _ _ _ (by omega)]

theorem fixed_cn (n : Int) (k : Nat) : fixed (cn k n) k = fixed n k := by
  rw [← fixed_mod (cn k n) k k (Nat.le_refl _), ← fixed_mod n k k (Nat.le_refl _)]
  congr 1
  unfold cn
  have hp : (0 : Int) < 2 ^ (8 * k) := Int.pow_pos (by decide)
  have h1 := Int.emod_nonneg n (Int.ne_of_gt hp)
  have h2 := Int.emod_lt_of_pos n hp
  have hc : ((2 ^ (8 * k) : Nat) : Int) = (2 : Int) ^ (8 * k) := by rw [Int.natCast_pow]; rfl
  rw [sgn_mod k _ (by omega)]
  omega

theorem uvA_uvF (rest : List UInt8) : ∀ (k fuel n : Nat), n < 16 * 128 ^ k → k < fuel → uvA k (uvF fuel n ++ rest) = some (n, rest) := by
  intro k
  induction k with
  | zero =>
    intro fuel n h hf
    obtain ⟨m, rfl⟩ : ∃ m, fuel = m + 1 := ⟨fuel - 1, by omega⟩
    simp only [Nat.pow_zero, Nat.mul_one] at h
    have hb : (UInt8.ofNat n).toNat = n := UInt8.toNat_ofNat_of_lt' (by simp only [UInt8.size]; omega)
    simp only [uvF, if_pos (show n < 128 by omega), List.cons_append, List.nil_append, uvA, hb, if_pos (show n ≤ 15 by omega)]
  | succ k ih =>
    intro fuel n h hf
    obtain ⟨m, rfl⟩ : ∃ m, fuel = m + 1 := ⟨fuel - 1, by omega⟩
    by_cases hn : n < 128
    · have hb : (UInt8.ofNat n).toNat = n := UInt8.toNat_ofNat_of_lt' (by simp only [UInt8.size]; omega)
      simp only [uvF, if_pos hn, List.cons_append, List.nil_append, uvA, hb]
    · have hb : (UInt8.ofNat (n % 128 + 128)).toNat = n % 128 + 128 := UInt8.toNat_ofNat_of_lt' (by simp only [UInt8.size]; omega)
      have h2 := ih m (n / 128) (by rw [Nat.div_lt_iff_lt_mul (by decide)]; rw [Nat.pow_succ] at h; omega) (by omega)
      simp only [uvF, if_neg hn, List.cons_append, uvA, hb, if_neg (show ¬ n % 128 + 128 < 128 by omega), h2, Option.map_some]
      simp only [Option.some.injEq, Prod.mk.injEq, and_true]
      omega

theorem uvA_cut : ∀ (k fuel n j : Nat), n < 16 * 128 ^ k → k < fuel → j < (uvF fuel n).length → uvA k ((uvF fuel n).take j) = none := by
  intro k
  induction k with
  | zero =>
    intro fuel n j h hf hj
    obtain ⟨m, rfl⟩ : ∃ m, fuel = m + 1 := ⟨fuel - 1, by omega⟩
    simp only [Nat.pow_zero, Nat.mul_one] at h
    simp only [uvF, if_pos (show n < 128 by omega), List.length_cons, List.length_nil] at hj ⊢
    obtain rfl : j = 0 := by omega
    rfl
  | succ k ih =>
    intro fuel n j h hf hj
    obtain ⟨m, rfl⟩ : ∃ m, fuel = m + 1 := ⟨fuel - 1, by omega⟩
    cases j with
    | zero => rfl
    | succ j =>
      by_cases hn : n < 128
      · simp only [uvF, if_pos hn, List.length_cons, List.length_nil] at hj
        omega
      · have hb : (UInt8.ofNat (n % 128 + 128)).toNat = n % 128 + 128 := UInt8.toNat_ofNat_of_lt' (by simp only [UInt8.size]; omega)
        simp only [uvF, if_neg hn, List.length_cons] at hj
        have h2 := ih m (n / 128) j (by rw [Nat.div_lt_iff_lt_mul (by decide)]; rw [Nat.pow_succ] at h; omega) (by omega) (by omega)
        simp only [uvF, if_neg hn, List.take_succ_cons, uvA, hb, if_neg (show ¬ n % 128 + 128 < 128 by omega), h2, Option.map_none]

/-- What is read of these octets is that, whatever stands behind them; of fewer, it is an error. -/
structure Exact {α : Type} (p : St → α × St) (b : List UInt8) (x : α) : Prop where
  all : ∀ rest, p (some (b ++ rest)) = (x, some rest)
  cut : ∀ k, k < b.length → (p (some (b.take k))).2 = none
/-- A reader that has failed stays so. -/
def Strict {α : Type} (p : St → α × St) : Prop := (p none).2 = none

theorem Exact.nil {α : Type} (x : α) : Exact (fun st => (x, st)) [] x := ⟨fun _ => rfl, fun k h => absurd h (by simp)⟩

theorem Exact.bind {α β : Type} {p : St → α × St} {b c : List UInt8} {x : α} {y : β} {q : α → St → β × St} (h1 : Exact p b x) (h2 : Exact (q x) c y) (hq : ∀ x, Strict (q x)) :
    Exact (fun st => q (p st).1 (p st).2) (b ++ c) y := by
  refine ⟨fun rest => ?_, fun k hk => ?_⟩
  · simp only [List.append_assoc, h1.all, h2.all]
  · by_cases hb : k < b.length
    · simp only [List.take_append_of_le_length (Nat.le_of_lt hb), h1.cut k hb]
      exact hq _
    · have e : (b ++ c).take k = b ++ c.take (k - b.length) := by rw [List.take_append, List.take_of_length_le (by omega)]
      simp only [e, h1.all]
      exact h2.cut _ (by rw [List.length_append] at hk; omega)

theorem Exact.map {α β : Type} {p : St → α × St} {b : List UInt8} {x : α} (f : α → β) (h : Exact p b x) : Exact (fun st => (f (p st).1, (p st).2)) b (f x) :=
  ⟨fun rest => by simp only [h.all], fun k hk => h.cut k hk⟩

theorem Exact.of_eq {α : Type} {p p' : St → α × St} {b b' : List UInt8} {x x' : α} (h : Exact p b x) (hp : p' = p) (hb : b' = b) (hx : x' = x) : Exact p' b' x' := by
  subst hp; subst hb; subst hx; exact h

theorem strict_bind {α β : Type} {p : St → α × St} {q : α → St → β × St} (h : Strict p) (hq : ∀ x, Strict (q x)) : Strict (fun st => q (p st).1 (p st).2) := by
  unfold Strict at h ⊢
  simp only [h]
  exact hq _

theorem exact_rdN {α : Type} (k : Nat) (g : List UInt8 → α) (z : α) (b : List UInt8) (h : b.length = k) : Exact (rdN k g z) b (g b) := by
  refine ⟨fun rest => ?_, fun j hj => ?_⟩
  · subst h
    simp [rdN]
  · simp only [rdN]
    rw [if_neg (by rw [List.length_take]; omega)]
theorem strict_rdN {α : Type} (k : Nat) (g : List UInt8 → α) (z : α) : Strict (rdN k g z) := rfl

theorem exact_rdI (k : Nat) (n : Int) : Exact (rdI k) (fixed n k) (cn k n) := by
  have h := exact_rdN k (fun l => sgn k (beNat l)) 0 (fixed n k) (fixed_length n k)
  rw [beNat_fixed'] at h
  exact h
theorem exact_rdU (k : Nat) (n : Int) : Exact (rdU k) (fixed n k) (n % 2 ^ (8 * k)).toNat := by
  have h := exact_rdN k beNat 0 (fixed n k) (fixed_length n k)
  rw [beNat_fixed'] at h
  exact h
theorem exact_rdV (n : Nat) (h : n < 4294967296) : Exact rdV (uv n) n := by
  refine ⟨fun rest => ?_, fun j hj => ?_⟩
  · simp only [rdV, uv, uvA_uvF rest 4 10 n (by omega) (by omega)]
  · simp only [rdV, uv, uvA_cut 4 10 n j (by omega) (by omega) hj]
theorem strict_rdV : Strict rdV := rfl
theorem strict_rdSpan (l : Int) : Strict (rdSpan l) := rfl
theorem exact_rdSpan (b : List UInt8) : Exact (rdSpan b.length) b b := by
  refine ⟨fun rest => ?_, fun j hj => ?_⟩
  · simp only [rdSpan]
    rw [if_pos ⟨by omega, by rw [List.length_append]; omega⟩]
    simp
  · simp only [rdSpan]
    rw [if_neg (by rw [List.length_take]; omega)]

/-! ## Texts, octets, counts -/

theorem uvF_pos (k n : Nat) : 0 < (uvF (k + 1) n).length := by
  simp only [uvF]; split <;> simp

theorem exact_count (flex : Bool) (size n : Nat) (hn : n ≤ most) (hs : 2 ≤ size) : Exact (rdCount flex size) (counted flex false n size) (n : Int) := by
  cases flex with
  | true =>
    have h := (exact_rdV (n + 1) (by simp only [most] at hn; omega)).map (fun u : Nat => (u : Int) - 1)
    exact h.of_eq rfl rfl (by omega)
  | false =>
    have h := exact_rdI size n
    refine h.of_eq rfl rfl ?_
    unfold cn sgn
    have hp : (2 : Int) ^ 16 ≤ 2 ^ (8 * size) := by
      have : 2 ^ 16 ≤ 2 ^ (8 * size) := Nat.pow_le_pow_right (by decide) (by omega)
      have e : ((2 ^ (8 * size) : Nat) : Int) = (2 : Int) ^ (8 * size) := by rw [Int.natCast_pow]; rfl
      omega
    have hq : 2 ^ 15 ≤ 2 ^ (8 * size - 1) := Nat.pow_le_pow_right (by decide) (by omega)
    simp only [most] at hn
    rw [Int.emod_eq_of_lt (by omega) (by omega), Int.toNat_natCast, if_pos (by omega)]

theorem exact_null (flex : Bool) (size : Nat) (hs : 0 < size) : Exact (rdCount flex size) (counted flex true 0 size) (-1) := by
  cases flex with
  | true => exact ((exact_rdV 0 (by omega)).map (fun u : Nat => (u : Int) - 1)).of_eq rfl rfl rfl
  | false =>
    refine (exact_rdI size (-1)).of_eq rfl rfl ?_
    unfold cn sgn
    have hp : (0 : Int) < 2 ^ (8 * size) := Int.pow_pos (by decide)
    have e2 : (2 : Int) ^ (8 * size) = 2 ^ (8 * size - 1) * 2 := by rw [← Int.pow_succ]; congr 1; omega
    have e : ((2 ^ (8 * size - 1) : Nat) : Int) = (2 : Int) ^ (8 * size - 1) := by rw [Int.natCast_pow]; rfl
    have h1 : (1 : Int) ≤ 2 ^ (8 * size - 1) := Int.pow_pos (by decide)
    have hm : (-1 : Int) % 2 ^ (8 * size) = 2 ^ (8 * size) - 1 := by
      rw [← Int.add_emod_right, Int.emod_eq_of_lt (by omega) (by omega)]; omega
    rw [hm, if_neg (by omega)]
    omega

theorem strict_count (flex : Bool) (size : Nat) : Strict (rdCount flex size) := by cases flex <;> rfl

theorem exact_text (flex may : Bool) (size : Nat) (b : List UInt8) (hs : 2 ≤ size) (hb : b.length ≤ most) : Exact (rdText flex may size) (counted flex false b.length size ++ b) (Ts b) := by
  have h := (exact_count flex size b.length hb hs).bind (q := fun l s => if may ∧ l < 0 then (Tnull, s) else (Ts (rdSpan l s).1, (rdSpan l s).2)) (c := b) (y := Ts b)
    (by simp only [show ¬ ((b.length : Int) < 0) by omega, and_false, if_false]; exact (exact_rdSpan b).map Ts)
    (fun l => by simp only [Strict]; split <;> rfl)
  exact h
theorem exact_text_null (flex : Bool) (size : Nat) (hs : 0 < size) : Exact (rdText flex true size) (counted flex true 0 size) Tnull := by
  have h := (exact_null flex size hs).bind (q := fun l s => if true ∧ l < 0 then (Tnull, s) else (Ts (rdSpan l s).1, (rdSpan l s).2)) (c := []) (y := Tnull)
    (by simp only [show ((-1 : Int) < 0) by omega, and_true, if_true]; exact Exact.nil _)
    (fun l => by simp only [Strict]; split <;> rfl)
  exact h.of_eq rfl (by simp) rfl
theorem strict_text (flex may : Bool) (size : Nat) : Strict (rdText flex may size) := by
  simp only [Strict, rdText, rdCount]
  cases flex <;> simp only [rdV, rdI, rdN, if_true, Bool.false_eq_true, if_false] <;> split <;> rfl
theorem exact_octets (flex : Bool) (b : List UInt8) (hb : b.length ≤ most) : Exact (rdOctets flex) (counted flex false b.length 4 ++ b) (Ts b) := by
  have h := (exact_count flex 4 b.length hb (by decide)).bind (q := fun l s => if l = -1 then (Ts [], s) else (Ts (rdSpan l s).1, (rdSpan l s).2)) (c := b) (y := Ts b)
    (by simp only [show ¬ ((b.length : Int) = -1) by omega, if_false]; exact (exact_rdSpan b).map Ts)
    (fun l => by simp only [Strict]; split <;> rfl)
  exact h
theorem strict_octets (flex : Bool) : Strict (rdOctets flex) := by
  simp only [Strict, rdOctets, rdCount]
  cases flex <;> simp only [rdV, rdI, rdN, if_true, Bool.false_eq_true, if_false] <;> split <;> rfl

/-! ## What reading gives -/

def canonVal (kind : Nat) (part : T → T) (null : Bool) (t : T) : T :=
  if kind = 0 then Tn (t.n % 2)
  else if kind = 5 then Tn (t.n % 65536)
  else if kind = 7 then Ts (uuid t.s)
  else if kind = 8 ∨ kind = 9 then (if null then Tnull else Ts (t.s.take most))
  else if kind = 10 then part t
  else Tn (cn (width kind) t.n)
def canonField (v : Int) (f : F) (part : T → T) (t : T) : T :=
  if f.kind = 11 then (if f.nul v t then Tnull else Tl ((t.l.take most).map (canonVal f.of part false)))
  else if f.kind = 10 ∧ 0 ≤ f.null then (if f.nul v t then Tnull else part t)
  else canonVal f.kind part (f.nul v t) t
def plainC (v : Int) : List F → List (T → T) → List T → List T → List T
  | f :: fs, c :: cs, ds, ts => (if f.tag < 0 ∧ f.has v then c (ts.headD T.zero) else ds.headD T.zero) :: plainC v fs cs ds.tail ts.tail
  | _, _, _, _ => []
/-- The tags that are not as usual, below number m, are there; the others are as they were. -/
def tagC (m : Int) : List F → List (T → T) → List (T → Bool) → List T → List T → List T
  | f :: fs, c :: cs, q :: qs, d :: ds, ts => (if 0 ≤ f.tag ∧ f.tag < m ∧ ¬ q (ts.headD T.zero) then c (ts.headD T.zero) else d) :: tagC m fs cs qs ds ts.tail
  | _, _, _, ds, _ => ds
def asmC (v : Int) (flex : Bool) (fs : List F) (cs : List (T → T)) (qs : List (T → Bool)) (ds : List T) (t : T) : T :=
  if flex then .mk 0 [] false (tagC (known fs) fs cs qs (plainC v fs cs ds t.l) t.l) ((unknown (known fs) t.u).map whole2)
  else .mk 0 [] false (plainC v fs cs ds t.l) []
mutual
def canon (v : Int) (flex : Bool) : F → T → T
  | .mk kind frm to null tag dflt of sub => canonField v (.mk kind frm to null tag dflt of sub) (asmC v flex sub (canons v flex sub) (usuals sub) (dfltOf sub))
def canons (v : Int) (flex : Bool) : List F → List (T → T)
  | [] => []
  | f :: fs => canon v flex f :: canons v flex fs
end
def canonPart (v : Int) (flex : Bool) (fs : List F) (t : T) : T := asmC v flex fs (canons v flex fs) (usuals fs) (dfltOf fs) t

/-- All keys of tags are of 32 bits. -/
inductive KeysOk : T → Prop
  | mk (n : Int) (s : List UInt8) (b : Bool) (l : List T) (u : List (Nat × List UInt8)) : (∀ x ∈ u, x.1 < 4294967296) → (∀ x ∈ l, KeysOk x) → KeysOk (.mk n s b l u)
theorem KeysOk.u {t : T} (h : KeysOk t) : ∀ x ∈ t.u, x.1 < 4294967296 := by cases h; assumption
theorem KeysOk.l {t : T} (h : KeysOk t) : ∀ x ∈ t.l, KeysOk x := by cases h; assumption
theorem KeysOk.zero : KeysOk T.zero := .mk _ _ _ _ _ (fun _ h => absurd h (by simp)) (fun _ h => absurd h (by simp))
theorem KeysOk.head {l : List T} (h : ∀ x ∈ l, KeysOk x) : KeysOk (l.headD T.zero) := by
  cases l with
  | nil => exact .zero
  | cons a l => exact h a (by simp)

/-! ## The unknown tags -/

def Sorted : List (Nat × List UInt8) → Prop
  | [] => True
  | (k, _) :: r => (∀ x ∈ r, k < x.1) ∧ Sorted r

theorem insTag_mem (k : Nat) (v : List UInt8) (l : List (Nat × List UInt8)) : ∀ x ∈ insTag k v l, x = (k, v) ∨ x ∈ l := by
  induction l with
  | nil => intro x hx; simp [insTag] at hx; exact .inl hx
  | cons a l ih =>
    obtain ⟨j, w⟩ := a
    intro x hx
    simp only [insTag] at hx
    split at hx
    · simp only [List.mem_cons] at hx ⊢
      rcases hx with rfl | hx
      · exact .inr (.inl rfl)
      · rcases ih x hx with h | h
        · exact .inl h
        · exact .inr (.inr h)
    · split at hx
      · exact .inr hx
      · simp only [List.mem_cons] at hx ⊢; exact hx
theorem insTag_sorted (k : Nat) (v : List UInt8) (l : List (Nat × List UInt8)) (h : Sorted l) : Sorted (insTag k v l) := by
  induction l with
  | nil => exact ⟨fun x hx => absurd hx (by simp), trivial⟩
  | cons a l ih =>
    obtain ⟨j, w⟩ := a
    simp only [insTag]
    split
    · rename_i hjk
      refine ⟨fun x hx => ?_, ih h.2⟩
      rcases insTag_mem k v l x hx with rfl | hx
      · exact hjk
      · exact h.1 x hx
    · split
      · exact h
      · refine ⟨fun x hx => ?_, h⟩
        simp only [List.mem_cons] at hx
        rcases hx with rfl | hx
        · show k < j; omega
        · have := h.1 x hx; omega
theorem insTag_length (k : Nat) (v : List UInt8) (l : List (Nat × List UInt8)) : (insTag k v l).length ≤ l.length + 1 := by
  induction l with
  | nil => simp [insTag]
  | cons a l ih =>
    obtain ⟨j, w⟩ := a
    simp only [insTag]
    split
    · simp only [List.length_cons]; omega
    · split <;> simp only [List.length_cons] <;> omega

theorem unknown_spec (least : Nat) (l : List (Nat × List UInt8)) :
    Sorted (unknown least l) ∧ (unknown least l).length ≤ most ∧ (∀ x ∈ unknown least l, x ∈ l) ∧ (∀ x ∈ unknown least l, least ≤ x.1) := by
  have key : ∀ (l out : List (Nat × List UInt8)), Sorted out → (∀ x ∈ out, least ≤ x.1) →
      let r := l.foldl (fun out t => if t.1 < least then out else insTag t.1 t.2 out) out
      Sorted r ∧ r.length ≤ out.length + l.length ∧ (∀ x ∈ r, x ∈ out ∨ x ∈ l) ∧ (∀ x ∈ r, least ≤ x.1) := by
    intro l
    induction l with
    | nil => intro out h h2; exact ⟨h, by simp, fun x hx => .inl hx, h2⟩
    | cons a l ih =>
      intro out h h2
      simp only [List.foldl_cons]
      by_cases ha : a.1 < least
      · simp only [if_pos ha]
        obtain ⟨g1, g2, g3, g4⟩ := ih out h h2
        refine ⟨g1, by simp only [List.length_cons]; omega, fun x hx => ?_, g4⟩
        rcases g3 x hx with hx | hx
        · exact .inl hx
        · exact .inr (List.mem_cons_of_mem _ hx)
      · simp only [if_neg ha]
        obtain ⟨g1, g2, g3, g4⟩ := ih (insTag a.1 a.2 out) (insTag_sorted _ _ _ h) (fun x hx => by
          rcases insTag_mem _ _ _ x hx with rfl | hx
          · show least ≤ a.1; omega
          · exact h2 x hx)
        have hl := insTag_length a.1 a.2 out
        refine ⟨g1, by simp only [List.length_cons]; omega, fun x hx => ?_, g4⟩
        rcases g3 x hx with hx | hx
        · rcases insTag_mem _ _ _ x hx with rfl | hx
          · exact .inr (by simp)
          · exact .inl hx
        · exact .inr (List.mem_cons_of_mem _ hx)
  obtain ⟨g1, g2, g3, g4⟩ := key (l.take most) [] trivial (fun x hx => absurd hx (by simp))
  refine ⟨g1, ?_, fun x hx => ?_, g4⟩
  · have : (l.take most).length ≤ most := by rw [List.length_take]; omega
    simp only [List.length_nil, Nat.zero_add] at g2
    unfold unknown
    omega
  · rcases g3 x hx with hx | hx
    · exact absurd hx (by simp)
    · exact List.mem_of_mem_take hx

theorem insTag_last (k : Nat) (v : List UInt8) (l : List (Nat × List UInt8)) (h : ∀ x ∈ l, x.1 < k) : insTag k v l = l ++ [(k, v)] := by
  induction l with
  | nil => rfl
  | cons a l ih =>
    obtain ⟨j, w⟩ := a
    simp only [insTag]
    rw [if_pos (h (j, w) (by simp)), ih (fun x hx => h x (List.mem_cons_of_mem _ hx))]
    rfl
theorem setTag_last (k : Nat) (v : List UInt8) (l : List (Nat × List UInt8)) (h : ∀ x ∈ l, x.1 < k) : setTag k v l = l ++ [(k, v)] := by
  induction l with
  | nil => rfl
  | cons a l ih =>
    obtain ⟨j, w⟩ := a
    simp only [setTag]
    rw [if_pos (h (j, w) (by simp)), ih (fun x hx => h x (List.mem_cons_of_mem _ hx))]
    rfl

/-- Sorted tags are their own unknown ones. -/
theorem unknown_sorted (least : Nat) (l : List (Nat × List UInt8)) (hs : Sorted l) (hl : l.length ≤ most) (hk : ∀ x ∈ l, least ≤ x.1) : unknown least l = l := by
  have key : ∀ (l out : List (Nat × List UInt8)), Sorted l → (∀ x ∈ l, least ≤ x.1) → (∀ x ∈ out, ∀ y ∈ l, x.1 < y.1) →
      l.foldl (fun out t => if t.1 < least then out else insTag t.1 t.2 out) out = out ++ l := by
    intro l
    induction l with
    | nil => intro out _ _ _; simp
    | cons a l ih =>
      intro out h hk ho
      obtain ⟨k, v⟩ := a
      simp only [List.foldl_cons]
      rw [if_neg (by have := hk (k, v) (by simp); simp only at this; omega), insTag_last k v out (fun x hx => ho x hx (k, v) (by simp))]
      rw [ih (out ++ [(k, v)]) h.2 (fun x hx => hk x (List.mem_cons_of_mem _ hx))]
      · simp
      · intro x hx y hy
        simp only [List.mem_append, List.mem_singleton] at hx
        rcases hx with hx | rfl
        · exact ho x hx y (List.mem_cons_of_mem _ hy)
        · exact h.1 y hy
  unfold unknown
  rw [List.take_of_length_le hl, key l [] hs hk (fun x hx => absurd hx (by simp))]
  rfl

/-! ## Which fields are served -/

def scalar (kind : Nat) : Bool := kind = 0 || kind = 1 || kind = 2 || kind = 3 || kind = 4 || kind = 5 || kind = 7 || kind = 8 || kind = 9
/-- A part has an octet at least. -/
def someW (v : Int) (flex : Bool) (fs : List F) : Bool := flex || fs.any fun f => decide (f.tag < 0) && f.has v && scalar f.kind
def okTagged (v : Int) (f : F) : Bool :=
  intKind f.kind || f.kind = 7 || (f.kind = 8 && f.may v) || (f.kind = 11 && decide (f.null < 0)) ||
  (f.kind = 10 && decide (f.null < 0) && f.sub.all fun g => intKind g.kind && decide (g.tag < 0) && g.has v)
mutual
def okF (v : Int) (flex : Bool) : F → Bool
  | .mk kind frm to null tag dflt of sub =>
    (scalar kind || (kind = 10 && okFs v flex sub) || (kind = 11 && (scalar of || (of = 10 && okFs v flex sub && someW v flex sub)))) && decide (sub.length ≤ most) && (decide (kind ≠ 10) || decide (null < 0) || (decide (0 ≤ null) && decide (null ≤ v)) || !(decide (frm ≤ v) && (decide (to < 0) || decide (v ≤ to)))) &&
    (decide (tag < 0) || okTagged v (.mk kind frm to null tag dflt of sub))
def okFs (v : Int) (flex : Bool) : List F → Bool
  | [] => true
  | f :: fs => okF v flex f && decide (f.tag < 4294967295) && (decide (f.tag < 0) || fs.all fun g => decide (g.tag ≠ f.tag)) && okFs v flex fs
end

inductive All3 : List F → List (St → T × St) → List (T → List UInt8) → List (T → T) → Prop
  | nil : All3 [] [] [] []
  | cons {f : F} {g : St → T × St} {w : T → List UInt8} {c : T → T} {fs : List F} {gs : List (St → T × St)} {ws : List (T → List UInt8)} {cs : List (T → T)} :
      (∀ t, KeysOk t → (w t).length < 4294967296 → Exact g (w t) (c t)) → Strict g → (f.tag < 0 ∨ ∀ h ∈ fs, h.tag ≠ f.tag) → All3 fs gs ws cs → All3 (f :: fs) (g :: gs) (w :: ws) (c :: cs)

theorem strict_plainR (v : Int) {fs : List F} {gs : List (St → T × St)} {ws : List (T → List UInt8)} {cs : List (T → T)} (h : All3 fs gs ws cs) : ∀ ds, Strict (plainR v fs gs ds) := by
  induction h with
  | nil => intro ds; rfl
  | cons h1 h2 h3 h4 ih =>
    intro ds
    simp only [Strict, plainR] at ih ⊢
    split
    · rw [show (_ : T × St).2 = none from h2]; exact ih _
    · exact ih _

theorem exact_plainR (v : Int) {fs : List F} {gs : List (St → T × St)} {ws : List (T → List UInt8)} {cs : List (T → T)} (h : All3 fs gs ws cs) :
    ∀ ds ts, (∀ x ∈ ts, KeysOk x) → (plainW v fs ws ts).length < 4294967296 → Exact (plainR v fs gs ds) (plainW v fs ws ts) (plainC v fs cs ds ts) := by
  induction h with
  | nil => intro ds ts _ _; exact Exact.nil _
  | @cons f g w c fs gs ws cs h1 h2 h3 h4 ih =>
    intro ds ts hk hz
    simp only [plainW, List.length_append] at hz
    have ih' := ih ds.tail ts.tail (fun x hx => hk x (List.mem_of_mem_tail hx)) (by omega)
    by_cases hc : f.tag < 0 ∧ f.has v
    · rw [if_pos hc] at hz
      have e := (h1 (ts.headD T.zero) (KeysOk.head hk) (by omega)).bind (q := fun t st => (t :: (plainR v fs gs ds.tail st).1, (plainR v fs gs ds.tail st).2)) (ih'.map _) (fun x => by
        have := strict_plainR v h4 ds.tail
        exact this)
      refine e.of_eq ?_ ?_ ?_
      · funext st; simp only [plainR, if_pos hc]
      · simp only [plainW, if_pos hc]
      · simp only [plainC, if_pos hc]
    · refine (ih'.map (fun l => ds.headD T.zero :: l)).of_eq ?_ ?_ ?_
      · funext st; simp only [plainR, if_neg hc]
      · simp only [plainW, if_neg hc, List.nil_append]
      · simp only [plainC, if_neg hc]

/-! ## Tags -/

theorem plainC_length (v : Int) {fs : List F} {gs : List (St → T × St)} {ws : List (T → List UInt8)} {cs : List (T → T)} (h : All3 fs gs ws cs) : ∀ ds ts, (plainC v fs cs ds ts).length = fs.length := by
  induction h with
  | nil => intro ds ts; rfl
  | cons h1 h2 h3 h4 ih => intro ds ts; simp only [plainC, List.length_cons, ih]

theorem tag_le_known (fs : List F) : ∀ f ∈ fs, f.tag < known fs := by
  induction fs with
  | nil => intro f hf; simp at hf
  | cons g fs ih =>
    intro f hf
    simp only [known, List.mem_cons] at hf ⊢
    rcases hf with rfl | hf
    · split <;> omega
    · have := ih f hf; omega

theorem findTag_none (key : Nat) {fs : List F} {gs : List (St → T × St)} {ws : List (T → List UInt8)} {cs : List (T → T)} (h : All3 fs gs ws cs) (hk : ∀ f ∈ fs, f.tag ≠ key) : findTag key fs gs = none := by
  induction h with
  | nil => rfl
  | @cons f g w c fs gs ws cs h1 h2 h3 h4 ih =>
    simp only [findTag]
    rw [if_neg (hk f (by simp)), ih (fun f hf => hk f (List.mem_cons_of_mem _ hf))]
    rfl
theorem tagW_none (m : Nat) : ∀ (fs : List F) (ws : List (T → List UInt8)) (qs : List (T → Bool)) (ts : List T), (∀ f ∈ fs, f.tag ≠ m) → tagW m fs ws qs ts = [] := by
  intro fs
  induction fs with
  | nil => intro ws qs ts _; simp [tagW]
  | cons f fs ih =>
    intro ws qs ts h
    cases ws with
    | nil => simp [tagW]
    | cons w ws =>
      cases qs with
      | nil => simp [tagW]
      | cons q qs =>
        simp only [tagW]
        rw [if_neg (fun hc => h f (by simp) hc.1), ih _ _ _ (fun f hf => h f (List.mem_cons_of_mem _ hf))]
        rfl
theorem tagC_none (m : Nat) : ∀ (fs : List F) (cs : List (T → T)) (qs : List (T → Bool)) (ds ts : List T), (∀ f ∈ fs, f.tag ≠ m) → tagC (m + 1) fs cs qs ds ts = tagC m fs cs qs ds ts := by
  intro fs
  induction fs with
  | nil => intro cs qs ds ts _; simp [tagC]
  | cons f fs ih =>
    intro cs qs ds ts h
    cases cs with
    | nil => simp [tagC]
    | cons c cs =>
      cases qs with
      | nil => simp [tagC]
      | cons q qs =>
        cases ds with
        | nil => simp [tagC]
        | cons d ds =>
          simp only [tagC]
          rw [ih _ _ _ _ (fun f hf => h f (List.mem_cons_of_mem _ hf))]
          have := h f (by simp)
          congr 1
          by_cases hc : 0 ≤ f.tag ∧ f.tag < (m : Int) ∧ ¬ q (ts.headD T.zero)
          · rw [if_pos ⟨hc.1, by omega, hc.2.2⟩, if_pos hc]
          · rw [if_neg (fun h' => hc ⟨h'.1, by omega, h'.2.2⟩), if_neg hc]

/-- One tag number: what is written of it, and what that makes of the fields. -/
theorem tag_step (m : Nat) {fs : List F} {gs : List (St → T × St)} {ws : List (T → List UInt8)} {cs : List (T → T)} (h : All3 fs gs ws cs) :
    ∀ (qs : List (T → Bool)) (ds ts : List T), qs.length = fs.length → ds.length = fs.length → (∀ x ∈ ts, KeysOk x) → (∀ x ∈ tagW m fs ws qs ts, x.2.length < 4294967296) →
      (tagW m fs ws qs ts = [] ∧ tagC (m + 1) fs cs qs ds ts = tagC m fs cs qs ds ts) ∨
      ∃ i g t b, tagW m fs ws qs ts = [(m, b)] ∧ findTag m fs gs = some (i, g) ∧ Exact g b t ∧ tagC (m + 1) fs cs qs ds ts = (tagC m fs cs qs ds ts).set i t := by
  induction h with
  | nil => intro qs ds ts _ _ _ _; exact .inl ⟨rfl, rfl⟩
  | @cons f g w c fs gs ws cs h1 h2 h3 h4 ih =>
    intro qs ds ts hq hd hk hz
    obtain ⟨q, qs, rfl⟩ : ∃ q qs', qs = q :: qs' := by cases qs with | nil => simp at hq | cons q qs => exact ⟨q, qs, rfl⟩
    obtain ⟨d, ds, rfl⟩ : ∃ d ds', ds = d :: ds' := by cases ds with | nil => simp at hd | cons d ds => exact ⟨d, ds, rfl⟩
    simp only [List.length_cons, Nat.add_right_cancel_iff] at hq hd
    by_cases hm : f.tag = m
    · have hne : ∀ h ∈ fs, h.tag ≠ m := by
        rcases h3 with h3 | h3
        · omega
        · intro x hx; rw [← hm]; exact h3 x hx
      by_cases hu : q (ts.headD T.zero) = true
      · left
        refine ⟨?_, ?_⟩
        · simp only [tagW, hu, not_true, and_false, if_false, List.nil_append]; exact tagW_none m fs ws qs _ hne
        · simp only [tagC, hu, not_true, and_false, if_false]; rw [tagC_none m fs cs qs ds _ hne]
      · right
        have hz' := hz (m, w (ts.headD T.zero)) (by simp only [tagW, hm, true_and]; rw [if_pos hu]; simp)
        refine ⟨0, g, c (ts.headD T.zero), w (ts.headD T.zero), ?_, ?_, h1 _ (KeysOk.head hk) hz', ?_⟩
        · simp only [tagW, hm, true_and]; rw [if_pos hu, tagW_none m fs ws qs _ hne]; rfl
        · simp only [findTag, if_pos hm]
        · simp only [tagC, List.set_cons_zero, tagC_none m fs cs qs ds _ hne]
          rw [if_pos ⟨by omega, by omega, hu⟩]
    · rcases ih qs ds ts.tail hq hd (fun x hx => hk x (List.mem_of_mem_tail hx)) (fun x hx => hz x (by simp only [tagW]; exact List.mem_append_right _ hx)) with ⟨e1, e2⟩ | ⟨i, g', t, b, e1, e2, e3, e4⟩
      · left
        refine ⟨?_, ?_⟩
        · simp only [tagW, hm, false_and, if_false, List.nil_append, e1]
        · simp only [tagC, e2]
          congr 1
          by_cases hc : 0 ≤ f.tag ∧ f.tag < (m : Int) ∧ ¬ q (ts.headD T.zero)
          · rw [if_pos ⟨hc.1, by omega, hc.2.2⟩, if_pos hc]
          · rw [if_neg (fun h' => hc ⟨h'.1, by omega, h'.2.2⟩), if_neg hc]
      · right
        refine ⟨i + 1, g', t, b, ?_, ?_, e3, ?_⟩
        · simp only [tagW, hm, false_and, if_false, List.nil_append, e1]
        · simp only [findTag, if_neg hm, e2, Option.map_some]
        · simp only [tagC, e4, List.set_cons_succ]
          congr 1
          by_cases hc : 0 ≤ f.tag ∧ f.tag < (m : Int) ∧ ¬ q (ts.headD T.zero)
          · rw [if_pos ⟨hc.1, by omega, hc.2.2⟩, if_pos hc]
          · rw [if_neg (fun h' => hc ⟨h'.1, by omega, h'.2.2⟩), if_neg hc]

/-- One tag, octet for octet. -/
theorem exact_tagR_known (fs : List F) (gs : List (St → T × St)) (ts : List T) (u : List (Nat × List UInt8)) (m : Nat) (b : List UInt8) (i : Nat) (g : St → T × St) (t : T)
    (hf : findTag m fs gs = some (i, g)) (hg : Exact g b t) (hm : m < 4294967296) (hb : b.length < 4294967296) :
    Exact (fun st => (((tagR fs gs (ts, u, st)).1, (tagR fs gs (ts, u, st)).2.1), (tagR fs gs (ts, u, st)).2.2)) (tagB (m, b)) (ts.set i t, u) := by
  have hg0 := hg.all []
  rw [List.append_nil] at hg0
  have h := (exact_rdV m hm).bind (c := uv b.length ++ b) (y := (ts.set i t, u)) (q := fun key st =>
      let s := rdV st
      let p := rdSpan s.1 s.2
      let r : List T × List (Nat × List UInt8) × St := match findTag key fs gs with
        | some (i, g) => (ts.set i (g (some p.1)).1, u, if (g (some p.1)).2.isNone then none else p.2)
        | none => (ts, setTag key p.1 u, p.2)
      ((r.1, r.2.1), r.2.2))
    ((exact_rdV b.length hb).bind (c := b) (y := (ts.set i t, u)) (q := fun (size : Nat) st =>
      let p := rdSpan size st
      let r : List T × List (Nat × List UInt8) × St := match findTag m fs gs with
        | some (i, g) => (ts.set i (g (some p.1)).1, u, if (g (some p.1)).2.isNone then none else p.2)
        | none => (ts, setTag m p.1 u, p.2)
      ((r.1, r.2.1), r.2.2))
      (by
        have h1 := exact_rdSpan b
        refine ⟨fun rest => ?_, fun k hk => ?_⟩
        · simp only [h1.all, hf, hg0]; rfl
        · have h2 := h1.cut k hk
          simp only [hf, h2]
          split <;> rfl)
      (fun x => by
        simp only [Strict, hf]
        rw [show (rdSpan (x : Int) none).2 = none from rfl]
        split <;> rfl))
    (fun key => by
      simp only [Strict]
      rw [show (rdV none).2 = none from rfl]
      split
      · show (if _ then none else _) = none
        split <;> rfl
      · rfl)
  refine h.of_eq ?_ ?_ rfl
  · funext st; rfl
  · simp only [tagB, List.append_assoc]

theorem exact_tagR_unknown (fs : List F) (gs : List (St → T × St)) (ts : List T) (u : List (Nat × List UInt8)) (m : Nat) (b : List UInt8)
    (hf : findTag m fs gs = none) (hm : m < 4294967296) (hb : b.length < 4294967296) :
    Exact (fun st => (((tagR fs gs (ts, u, st)).1, (tagR fs gs (ts, u, st)).2.1), (tagR fs gs (ts, u, st)).2.2)) (tagB (m, b)) (ts, setTag m b u) := by
  have h := (exact_rdV m hm).bind (c := uv b.length ++ b) (y := (ts, setTag m b u)) (q := fun key st =>
      let s := rdV st
      let p := rdSpan s.1 s.2
      let r : List T × List (Nat × List UInt8) × St := match findTag key fs gs with
        | some (i, g) => (ts.set i (g (some p.1)).1, u, if (g (some p.1)).2.isNone then none else p.2)
        | none => (ts, setTag key p.1 u, p.2)
      ((r.1, r.2.1), r.2.2))
    ((exact_rdV b.length hb).bind (c := b) (y := (ts, setTag m b u)) (q := fun (size : Nat) st =>
      let p := rdSpan size st
      let r : List T × List (Nat × List UInt8) × St := match findTag m fs gs with
        | some (i, g) => (ts.set i (g (some p.1)).1, u, if (g (some p.1)).2.isNone then none else p.2)
        | none => (ts, setTag m p.1 u, p.2)
      ((r.1, r.2.1), r.2.2))
      (by
        have h1 := exact_rdSpan b
        refine ⟨fun rest => ?_, fun k hk => ?_⟩
        · simp only [h1.all, hf]
        · have h2 := h1.cut k hk
          simp only [hf, h2])
      (fun x => by
        simp only [Strict, hf]
        rfl))
    (fun key => by
      simp only [Strict]
      rw [show (rdV none).2 = none from rfl]
      split
      · show (if _ then none else _) = none
        split <;> rfl
      · rfl)
  refine h.of_eq ?_ ?_ rfl
  · funext st; rfl
  · simp only [tagB, List.append_assoc]

theorem strict_tagR (fs : List F) (gs : List (St → T × St)) (ts : List T) (u : List (Nat × List UInt8)) : (tagR fs gs (ts, u, none)).2.2 = none := by
  simp only [tagR, rdV, rdSpan]
  split
  · exact ite_self _
  · rfl
theorem strict_tagsR (fs : List F) (gs : List (St → T × St)) : ∀ (k : Nat) (ts : List T) (u : List (Nat × List UInt8)), (tagsR fs gs k (ts, u, none)).2.2 = none := by
  intro k
  induction k with
  | zero => intro ts u; rfl
  | succ k ih =>
    intro ts u
    have h := strict_tagR fs gs ts u
    generalize hx : tagR fs gs (ts, u, none) = x at h
    obtain ⟨a, b, c⟩ := x
    simp only at h
    subst h
    simp only [tagsR, hx]
    exact ih a b

def tagsP (fs : List F) (gs : List (St → T × St)) (k : Nat) (x : List T × List (Nat × List UInt8)) (st : St) : (List T × List (Nat × List UInt8)) × St :=
  (((tagsR fs gs k (x.1, x.2, st)).1, (tagsR fs gs k (x.1, x.2, st)).2.1), (tagsR fs gs k (x.1, x.2, st)).2.2)
theorem strict_tagsP (fs : List F) (gs : List (St → T × St)) (k : Nat) (x : List T × List (Nat × List UInt8)) : Strict (tagsP fs gs k x) := strict_tagsR fs gs k x.1 x.2

theorem tagsP_succ (fs : List F) (gs : List (St → T × St)) (k : Nat) (x : List T × List (Nat × List UInt8)) :
    tagsP fs gs (k + 1) x = fun st => tagsP fs gs k (tagsP fs gs 1 x st).1 (tagsP fs gs 1 x st).2 := rfl

/-- Sorted unknown tags are read one behind the other. -/
theorem exact_tagsP_unknown (fs : List F) (gs : List (St → T × St)) (ts : List T) : ∀ (l u : List (Nat × List UInt8)), Sorted l → (∀ x ∈ u, ∀ y ∈ l, x.1 < y.1) →
    (∀ x ∈ l, findTag x.1 fs gs = none ∧ x.1 < 4294967296 ∧ x.2.length < 4294967296) → Exact (tagsP fs gs l.length (ts, u)) (l.flatMap tagB) (ts, u ++ l) := by
  intro l
  induction l with
  | nil => intro u _ _ _; exact (Exact.nil (ts, u)).of_eq rfl rfl (by simp)
  | cons a l ih =>
    intro u hs hu hl
    obtain ⟨k, v⟩ := a
    obtain ⟨h1, h2, h3⟩ := hl (k, v) (by simp)
    have e1 := exact_tagR_unknown fs gs ts u k v h1 h2 h3
    rw [setTag_last k v u (fun x hx => hu x hx (k, v) (by simp))] at e1
    have e2 := ih (u ++ [(k, v)]) hs.2 (fun x hx y hy => by
      simp only [List.mem_append, List.mem_singleton] at hx
      rcases hx with hx | rfl
      · exact hu x hx y (List.mem_cons_of_mem _ hy)
      · exact hs.1 y hy) (fun x hx => hl x (List.mem_cons_of_mem _ hx))
    have h := e1.bind (q := fun x st => tagsP fs gs l.length x st) e2 (fun x => strict_tagsP fs gs l.length x)
    refine h.of_eq rfl ?_ ?_
    · simp only [List.flatMap_cons]
    · simp

/-- The known tags, by rising numbers. -/
theorem exact_tagsP_known {fs : List F} {gs : List (St → T × St)} {ws : List (T → List UInt8)} {cs : List (T → T)} (h : All3 fs gs ws cs) (qs : List (T → Bool)) (ds ts : List T)
    (hq : qs.length = fs.length) (hd : ds.length = fs.length) (hk : ∀ x ∈ ts, KeysOk x) (n : Nat) : ∀ (m : Nat), m + n < 4294967296 →
      (∀ x ∈ (List.range' m n).flatMap (fun tag => tagW tag fs ws qs ts), x.2.length < 4294967296) →
      Exact (tagsP fs gs ((List.range' m n).flatMap fun tag => tagW tag fs ws qs ts).length (tagC m fs cs qs ds ts, [])) (((List.range' m n).flatMap fun tag => tagW tag fs ws qs ts).flatMap tagB)
        (tagC (m + n : Nat) fs cs qs ds ts, []) := by
  induction n with
  | zero => intro m _ _; exact Exact.nil (tagC m fs cs qs ds ts, [])
  | succ n ih =>
    intro m hm hz
    rw [List.range'_succ, List.flatMap_cons] at hz ⊢
    have ih' := ih (m + 1) (by omega) (fun x hx => hz x (List.mem_append_right _ hx))
    rw [show m + 1 + n = m + (n + 1) by omega] at ih'
    rcases tag_step m h qs ds ts hq hd hk (fun x hx => hz x (List.mem_append_left _ hx)) with ⟨e1, e2⟩ | ⟨i, g, t, b, e1, e2, e3, e4⟩
    · rw [e1, List.nil_append]
      rw [show (((m + 1 : Nat) : Int)) = (m : Int) + 1 by omega, e2] at ih'
      exact ih'
    · rw [e1]
      have h1 := exact_tagR_known fs gs (tagC m fs cs qs ds ts) [] m b i g t e2 e3 (by omega) (hz (m, b) (by rw [e1]; simp))
      rw [← e4] at h1
      rw [show (((m + 1 : Nat) : Int)) = (m : Int) + 1 by omega] at ih'
      have h2 := h1.bind (q := fun x st => tagsP fs gs ((List.range' (m + 1) n).flatMap fun tag => tagW tag fs ws qs ts).length x st) ih' (fun x => strict_tagsP fs gs _ x)
      refine h2.of_eq ?_ ?_ rfl
      · rw [List.singleton_append, List.length_cons, tagsP_succ]; rfl
      · rw [List.singleton_append, List.flatMap_cons]

theorem tagC_zero : ∀ (fs : List F) (cs : List (T → T)) (qs : List (T → Bool)) (ds ts : List T), tagC 0 fs cs qs ds ts = ds := by
  intro fs
  induction fs with
  | nil => intro cs qs ds ts; simp [tagC]
  | cons f fs ih =>
    intro cs qs ds ts
    cases cs with
    | nil => simp [tagC]
    | cons c cs =>
      cases qs with
      | nil => simp [tagC]
      | cons q qs =>
        cases ds with
        | nil => simp [tagC]
        | cons d ds => simp only [tagC, ih]; rw [if_neg (by omega)]

theorem tagB_pos (a : Nat × List UInt8) : a.2.length + 2 ≤ (tagB a).length := by
  have h1 : 0 < (uv a.1).length := uvF_pos 9 a.1
  have h2 : 0 < (uv a.2.length).length := uvF_pos 9 a.2.length
  simp only [tagB, List.length_append]
  omega
theorem tags_length (L : List (Nat × List UInt8)) : L.length ≤ (L.flatMap tagB).length ∧ ∀ x ∈ L, x.2.length ≤ (L.flatMap tagB).length := by
  induction L with
  | nil => exact ⟨by simp, fun x hx => absurd hx (by simp)⟩
  | cons a L ih =>
    have h := tagB_pos a
    rw [List.flatMap_cons, List.length_append]
    refine ⟨by rw [List.length_cons]; omega, fun x hx => ?_⟩
    simp only [List.mem_cons] at hx
    rcases hx with rfl | hx
    · omega
    · have := ih.2 x hx; omega
theorem tagsP_add (fs : List F) (gs : List (St → T × St)) (b : Nat) : ∀ (a : Nat) (x : List T × List (Nat × List UInt8)),
    tagsP fs gs (a + b) x = fun st => tagsP fs gs b (tagsP fs gs a x st).1 (tagsP fs gs a x st).2 := by
  intro a
  induction a with
  | zero => intro x; rw [Nat.zero_add]; rfl
  | succ a ih =>
    intro x
    rw [Nat.add_right_comm, tagsP_succ, tagsP_succ fs gs a]
    funext st
    rw [ih]

theorem exact_asm (v : Int) (flex : Bool) {fs : List F} {gs : List (St → T × St)} {ws : List (T → List UInt8)} {cs : List (T → T)} (h : All3 fs gs ws cs) (qs : List (T → Bool)) (ds : List T)
    (hq : qs.length = fs.length) (hkn : known fs < 4294967296) (t : T) (hk : KeysOk t) (hz : (asmW v flex fs ws qs t).length < 4294967296) :
    Exact (asmR v flex fs gs ds) (asmW v flex fs ws qs t) (asmC v flex fs cs qs ds t) := by
  simp only [asmW, List.length_append] at hz
  have e1 := exact_plainR v h ds t.l hk.l (by omega)
  cases flex with
  | false =>
    refine (e1.map (fun ts => T.mk 0 [] false ts [])).of_eq rfl ?_ rfl
    simp [asmW]
  | true =>
    obtain ⟨us, ul, um, uk⟩ := unknown_spec (known fs) t.u
    have hlen := plainC_length v h ds t.l
    generalize hU : (unknown (known fs) t.u).map whole2 = U at *
    have hUs : Sorted U := by
      rw [← hU]
      clear hU ul um uk
      generalize unknown (known fs) t.u = l at us
      induction l with
      | nil => trivial
      | cons a l ih =>
        refine ⟨fun x hx => ?_, ih us.2⟩
        simp only [List.mem_map] at hx
        obtain ⟨y, hy, rfl⟩ := hx
        exact us.1 y hy
    have hUx : ∀ x ∈ U, findTag x.1 fs gs = none ∧ x.1 < 4294967296 ∧ x.2.length < 4294967296 := by
      intro x hx
      rw [← hU] at hx
      simp only [List.mem_map] at hx
      obtain ⟨y, hy, rfl⟩ := hx
      refine ⟨findTag_none _ h (fun f hf => ?_), hk.u y (um y hy), ?_⟩
      · have := tag_le_known fs f hf
        have := uk y hy
        show f.tag ≠ (y.1 : Int)
        omega
      · show (y.2.take most).length < _
        rw [List.length_take]
        simp only [most]
        omega
    simp only [if_true, tagsB, List.length_append] at hz
    rw [List.flatMap_append, List.length_append] at hz
    have hK : knownW fs ws qs t.l = (List.range' 0 (known fs)).flatMap fun tag => tagW tag fs ws qs t.l := by rw [knownW, List.range_eq_range']
    obtain ⟨k2, k1⟩ := tags_length (knownW fs ws qs t.l)
    obtain ⟨k3, -⟩ := tags_length U
    have hKz : ∀ x ∈ (List.range' 0 (known fs)).flatMap fun tag => tagW tag fs ws qs t.l, x.2.length < 4294967296 := by
      rw [← hK]
      intro x hx
      have := k1 x hx
      omega
    have e2 := exact_tagsP_known h qs (plainC v fs cs ds t.l) t.l hq hlen hk.l (known fs) 0 (by omega) hKz
    rw [show (((0 : Nat) : Int)) = 0 from rfl, tagC_zero, Nat.zero_add, ← hK] at e2
    have e3 := exact_tagsP_unknown fs gs (tagC (known fs) fs cs qs (plainC v fs cs ds t.l) t.l) U [] hUs (fun x hx => absurd hx (by simp)) hUx
    rw [List.nil_append] at e3
    have e4 : Exact (tagsP fs gs (knownW fs ws qs t.l ++ U).length (plainC v fs cs ds t.l, [])) ((knownW fs ws qs t.l ++ U).flatMap tagB)
        (tagC (known fs) fs cs qs (plainC v fs cs ds t.l) t.l, U) := by
      have e := e2.bind (q := fun x st => tagsP fs gs U.length x st) e3 (fun x => strict_tagsP fs gs _ x)
      refine e.of_eq ?_ List.flatMap_append rfl
      rw [List.length_append, tagsP_add]
    have e5 := (exact_rdV (knownW fs ws qs t.l ++ U).length (by rw [List.length_append]; omega)).bind
      (q := fun n st => tagsP fs gs n (plainC v fs cs ds t.l, []) st) e4 (fun n => strict_tagsP fs gs n _)
    have e6 := e1.bind (q := fun ts st => tagsP fs gs (rdV st).1 (ts, []) (rdV st).2) e5 (fun ts => by
      simp only [Strict]
      exact strict_tagsP fs gs _ _)
    refine (e6.map (fun x => T.mk 0 [] false x.1 x.2)).of_eq ?_ ?_ ?_
    · funext st; rfl
    · simp only [asmW, if_true, tagsB, hU]
    · simp only [asmC, if_true, hU]

theorem strict_asm (v : Int) (flex : Bool) {fs : List F} {gs : List (St → T × St)} {ws : List (T → List UInt8)} {cs : List (T → T)} (h : All3 fs gs ws cs) (ds : List T) : Strict (asmR v flex fs gs ds) := by
  have h1 := strict_plainR v h ds
  simp only [Strict, asmR] at h1 ⊢
  cases flex with
  | false => simpa using h1
  | true =>
    simp only [if_true, h1]
    exact strict_tagsR fs gs (rdV none).1 (plainR v fs gs ds none).1 []

/-! ## Values and fields -/

theorem strict_valR (kind : Nat) (part : St → T × St) (may flex : Bool) (hp : Strict part) : Strict (valR kind part may flex) := by
  unfold Strict valR
  split
  · rfl
  split
  · rfl
  split
  · rfl
  split
  · exact strict_text flex may 2
  split
  · split
    · exact strict_text flex true 4
    · exact strict_octets flex
  split
  · exact hp
  · rfl

theorem exact_valR (kind : Nat) (pr : St → T × St) (pw : T → List UInt8) (pc : T → T) (null may flex : Bool) (t : T) (hs : scalar kind = true ∨ (kind = 10 ∧ Exact pr (pw t) (pc t))) (hn : null = true → may = true) :
    Exact (valR kind pr may flex) (valW kind pw null flex t) (canonVal kind pc null t) := by
  unfold valR valW canonVal
  have hc : kind = 0 ∨ kind = 1 ∨ kind = 2 ∨ kind = 3 ∨ kind = 4 ∨ kind = 5 ∨ kind = 7 ∨ kind = 8 ∨ kind = 9 ∨ (kind = 10 ∧ Exact pr (pw t) (pc t)) := by
    rcases hs with hs | hs
    · simp only [scalar, Bool.or_eq_true, decide_eq_true_eq] at hs; omega
    · simp only [hs, true_and]; simp
  have htl : (t.s.take most).length ≤ most := by rw [List.length_take]; omega
  rcases hc with rfl | rfl | rfl | rfl | rfl | rfl | rfl | rfl | rfl | ⟨rfl, he⟩
  · have h := (exact_rdU 1 (t.n % 2)).map (fun n => Tn (if n = 0 then 0 else 1))
    refine h.of_eq rfl ?_ ?_
    · have h1 := Int.emod_nonneg t.n (show (2 : Int) ≠ 0 by decide)
      have h2 := Int.emod_lt_of_pos t.n (show (0 : Int) < 2 by decide)
      simp only [if_true, fixed, byteAt]
      congr 2
      simp only [Nat.mul_zero, Int.pow_zero, Int.ediv_one]
      omega
    · simp only [if_true]
      congr 1
      have h1 := Int.emod_nonneg t.n (show (2 : Int) ≠ 0 by decide)
      have h2 := Int.emod_lt_of_pos t.n (show (0 : Int) < 2 by decide)
      have e : t.n % 2 % 2 ^ (8 * 1) = t.n % 2 := Int.emod_eq_of_lt h1 (by omega)
      rw [e]
      split <;> omega
  · exact ((exact_rdI 1 t.n).map Tn).of_eq rfl rfl rfl
  · exact ((exact_rdI 2 t.n).map Tn).of_eq rfl rfl rfl
  · exact ((exact_rdI 4 t.n).map Tn).of_eq rfl rfl rfl
  · exact ((exact_rdI 8 t.n).map Tn).of_eq rfl rfl rfl
  · refine ((exact_rdU 2 t.n).map (fun n : Nat => Tn n)).of_eq rfl rfl ?_
    simp only [show ¬ (5 : Nat) = 0 by decide, if_false, if_true]
    congr 1
    have h1 := Int.emod_nonneg t.n (show (65536 : Int) ≠ 0 by decide)
    show t.n % 65536 = ((t.n % 2 ^ (8 * 2)).toNat : Int)
    omega
  · have hl : (uuid t.s).length = 16 := by simp only [uuid, List.length_append, List.length_take, List.length_replicate]; omega
    have h := (exact_rdSpan (uuid t.s)).map (fun b => Ts (uuid b))
    rw [hl] at h
    refine h.of_eq rfl rfl ?_
    simp only [show ¬ (7 : Nat) = 0 by decide, show ¬ (7 : Nat) = 5 by decide, if_false, if_true]
    congr 1
    generalize uuid t.s = b at hl
    unfold uuid
    rw [hl, List.take_of_length_le (by omega)]
    simp
  · simp only [show ¬ (8 : Nat) = 0 by decide, show ¬ (8 : Nat) = 5 by decide, show ¬ (8 : Nat) = 7 by decide, if_false, if_true, true_or]
    cases null with
    | true =>
      obtain rfl := hn rfl
      exact exact_text_null flex 2 (by decide)
    | false => exact exact_text flex may 2 _ (by decide) htl
  · simp only [show ¬ (9 : Nat) = 0 by decide, show ¬ (9 : Nat) = 5 by decide, show ¬ (9 : Nat) = 7 by decide, show ¬ (9 : Nat) = 8 by decide, if_false, if_true, or_true]
    cases null with
    | true =>
      obtain rfl := hn rfl
      exact exact_text_null flex 4 (by decide)
    | false =>
      cases may with
      | true => exact exact_text flex true 4 _ (by decide) htl
      | false => exact exact_octets flex _ htl
  · simp only [show ¬ (10 : Nat) = 0 by decide, show ¬ (10 : Nat) = 5 by decide, show ¬ (10 : Nat) = 7 by decide, show ¬ (10 : Nat) = 8 by decide, show ¬ (10 : Nat) = 9 by decide, if_false, if_true]
    exact he

theorem strict_rdMany (g : St → T × St) (hg : Strict g) : ∀ n, Strict (rdMany g n) := by
  intro n
  induction n with
  | zero => rfl
  | succ n ih =>
    simp only [Strict, rdMany] at hg ih ⊢
    rw [hg]
    exact ih
theorem exact_rdMany (g : St → T × St) (w : T → List UInt8) (c : T → T) (hs : Strict g) : ∀ (l : List T), (∀ t ∈ l, Exact g (w t) (c t)) → Exact (rdMany g l.length) (l.flatMap w) (l.map c) := by
  intro l
  induction l with
  | nil => intro _; exact Exact.nil []
  | cons a l ih =>
    intro h
    have e := (h a (by simp)).bind (q := fun t st => (t :: (rdMany g l.length st).1, (rdMany g l.length st).2)) ((ih (fun t ht => h t (List.mem_cons_of_mem _ ht))).map (fun ts => c a :: ts))
      (fun x => strict_rdMany g hs l.length)
    exact e.of_eq rfl (by rw [List.flatMap_cons]) rfl

theorem exact_len0 (flex : Bool) (n : Nat) (hl : n ≤ most) : Exact (rdLen0 flex) (counted flex false n 4) (n : Int) := by
  cases flex with
  | true =>
    refine ((exact_rdV (n + 1) (by simp only [most] at hl; omega)).map (fun u : Nat => wrap32 (wrap32 u - 1))).of_eq (by funext st; simp only [rdLen0, if_true]) rfl ?_
    simp only [most] at hl
    unfold wrap32
    omega
  | false => exact (exact_count false 4 n hl (by decide)).of_eq (by funext st; simp only [rdLen0, rdCount, Bool.false_eq_true, if_false]) rfl rfl
theorem exact_len0_null (flex : Bool) : Exact (rdLen0 flex) (counted flex true 0 4) (-1) := by
  cases flex with
  | true => exact ((exact_rdV 0 (by decide)).map (fun u : Nat => wrap32 (wrap32 u - 1))).of_eq (by funext st; simp only [rdLen0, if_true]) rfl (by decide)
  | false => exact (exact_null false 4 (by decide)).of_eq (by funext st; simp only [rdLen0, rdCount, Bool.false_eq_true, if_false]) rfl rfl
theorem strict_list (may : Bool) (g : St → T × St) (r : Int) : Strict (fun s => listR may g (chkLen r s)) := rfl
theorem strict_listR (flex may : Bool) (g : St → T × St) : Strict (fun st => listR may g (rdLen flex st)) := by
  cases flex <;> rfl

theorem exact_list (flex may : Bool) (g : St → T × St) (w : T → List UInt8) (c : T → T) (hs : Strict g) (l : List T) (hl : l.length ≤ most) (h : ∀ t ∈ l, Exact g (w t) (c t)) (hw : ∀ t ∈ l, 1 ≤ (w t).length) :
    Exact (fun st => listR may g (rdLen flex st)) (counted flex false l.length 4 ++ l.flatMap w) (Tl (l.map c)) := by
  have hm := exact_rdMany g w c hs l h
  have hlen : l.length ≤ (l.flatMap w).length := by
    clear h hm hl
    induction l with
    | nil => simp
    | cons a l ih =>
      have := hw a (by simp)
      have := ih (fun t ht => hw t (List.mem_cons_of_mem _ ht))
      rw [List.flatMap_cons, List.length_append, List.length_cons]
      omega
  have e := (exact_len0 flex l.length hl).bind (c := l.flatMap w) (y := Tl (l.map c)) (q := fun r s => listR may g (chkLen r s))
    (by
      refine ⟨fun rest => ?_, fun k hk => ?_⟩
      · have h1 : chkLen (l.length : Int) (some (l.flatMap w ++ rest)) = ((l.length : Int), some (l.flatMap w ++ rest)) := by
          simp only [chkLen]
          rw [if_neg (by rw [List.length_append]; omega)]
        simp only [h1, listR, Option.isNone_some, Bool.false_eq_true, if_false]
        rw [if_neg (by omega), Int.toNat_natCast, hm.all]
      · simp only [chkLen]
        split
        · rfl
        · simp only [listR, Option.isNone_some, Bool.false_eq_true, if_false]
          rw [if_neg (by omega), Int.toNat_natCast]
          exact hm.cut k hk)
    (fun r => strict_list may g r)
  exact e.of_eq rfl rfl rfl
theorem exact_list_null (flex : Bool) (g : St → T × St) : Exact (fun st => listR true g (rdLen flex st)) (counted flex true 0 4) Tnull := by
  have e := (exact_len0_null flex).bind (c := []) (y := Tnull) (q := fun r s => listR true g (chkLen r s))
    (by
      refine ⟨fun rest => ?_, fun k hk => absurd hk (by simp)⟩
      have h1 : chkLen (-1) (some ([] ++ rest)) = (-1, some rest) := by
        simp only [chkLen, List.nil_append]
        rw [if_neg (by omega)]
      simp only [h1, listR, Option.isNone_some, Bool.false_eq_true, if_false]
      rw [if_pos ⟨trivial, by omega⟩])
    (fun r => strict_list true g r)
  exact e.of_eq rfl (by simp) rfl

theorem valW_pos (kind : Nat) (pw : T → List UInt8) (null flex : Bool) (t : T) (hs : scalar kind = true) : 1 ≤ (valW kind pw null flex t).length := by
  have hu : ∀ n, 1 ≤ (uv n).length := fun n => uvF_pos 9 n
  have hcnt : ∀ (nl : Bool) n size, 1 ≤ size → 1 ≤ (counted flex nl n size).length := by
    intro nl n size h
    cases flex <;> cases nl <;> simp [counted, fixed_length, hu] <;> omega
  have hc : kind = 0 ∨ kind = 1 ∨ kind = 2 ∨ kind = 3 ∨ kind = 4 ∨ kind = 5 ∨ kind = 7 ∨ kind = 8 ∨ kind = 9 := by
    simp only [scalar, Bool.or_eq_true, decide_eq_true_eq] at hs; omega
  rcases hc with rfl | rfl | rfl | rfl | rfl | rfl | rfl | rfl | rfl
  · simp [valW]
  · simp [valW, fixed_length, width]
  · simp [valW, fixed_length, width]
  · simp [valW, fixed_length, width]
  · simp [valW, fixed_length, width]
  · simp [valW, fixed_length, width]
  · simp only [valW, show ¬ (7 : Nat) = 0 by decide, if_false, if_true, uuid, List.length_append, List.length_take, List.length_replicate]; omega
  · simp only [valW, show ¬ (8 : Nat) = 0 by decide, show ¬ (8 : Nat) = 7 by decide, if_false, if_true]
    have h1 := hcnt true 0 2 (by decide)
    have h2 := hcnt false (t.s.take most).length 2 (by decide)
    split
    · exact h1
    · rw [List.length_append]; omega
  · simp only [valW, show ¬ (9 : Nat) = 0 by decide, show ¬ (9 : Nat) = 7 by decide, show ¬ (9 : Nat) = 8 by decide, if_false, if_true]
    have h1 := hcnt true 0 4 (by decide)
    have h2 := hcnt false (t.s.take most).length 4 (by decide)
    split
    · exact h1
    · rw [List.length_append]; omega

/-! ## All fields -/

theorem known_rds : ∀ (fs : List F) (v : Int) (flex : Bool), (rds v flex fs).length = fs.length ∧ (wrs v flex fs).length = fs.length ∧ (canons v flex fs).length = fs.length ∧ (usuals fs).length = fs.length ∧ (dfltOf fs).length = fs.length := by
  intro fs v flex
  induction fs with
  | nil => exact ⟨rfl, rfl, rfl, rfl, rfl⟩
  | cons f fs ih =>
    simp only [rds, wrs, canons, usuals, dfltOf, List.length_cons, ih.1, ih.2.1, ih.2.2.1, ih.2.2.2.1, ih.2.2.2.2, and_self]

theorem flatMap_le {α : Type} (w : α → List UInt8) (l : List α) : ∀ x ∈ l, (w x).length ≤ (l.flatMap w).length := by
  induction l with
  | nil => intro x hx; simp at hx
  | cons a l ih =>
    intro x hx
    rw [List.flatMap_cons, List.length_append]
    simp only [List.mem_cons] at hx
    rcases hx with rfl | hx
    · omega
    · have := ih x hx; omega

theorem someW_pos (v : Int) (flex : Bool) : ∀ (fs : List F) (gs : List (T → List UInt8)) (qs : List (T → Bool)) (t : T), gs.length = fs.length → someW v flex fs = true →
    (∀ (i : Nat) f g, fs[i]? = some f → gs[i]? = some g → scalar f.kind = true → ∀ t, 1 ≤ (g t).length) → 1 ≤ (asmW v flex fs gs qs t).length := by
  intro fs gs qs t hl hs hg
  cases flex with
  | true =>
    have h := uvF_pos 9 (knownW fs gs qs t.l ++ (unknown (known fs) t.u).map whole2).length
    have h' : 0 < (uv (knownW fs gs qs t.l ++ (unknown (known fs) t.u).map whole2).length).length := h
    simp only [asmW, if_true, tagsB, List.length_append] at h' ⊢
    omega
  | false =>
    simp only [asmW, Bool.false_eq_true, if_false, List.append_nil]
    simp only [someW, Bool.false_or] at hs
    generalize t.l = ts
    induction fs generalizing gs ts with
    | nil => simp at hs
    | cons f fs ih =>
      cases gs with
      | nil => simp at hl
      | cons g gs =>
        simp only [plainW, List.length_append]
        simp only [List.any_cons, Bool.or_eq_true, Bool.and_eq_true, decide_eq_true_eq] at hs
        rcases hs with ⟨⟨h1, h2⟩, h3⟩ | hs
        · rw [if_pos ⟨h1, h2⟩]
          have := hg 0 f g rfl rfl h3 (ts.headD T.zero)
          omega
        · have := ih gs (by simpa using hl) (fun i f' g' h1 h2 => hg (i + 1) f' g' (by simpa using h1) (by simpa using h2)) hs ts.tail
          omega

theorem wrs_get (v : Int) (flex : Bool) : ∀ (fs : List F) (i : Nat) f g, fs[i]? = some f → (wrs v flex fs)[i]? = some g → g = wr v flex f := by
  intro fs
  induction fs with
  | nil => intro i f g h; simp at h
  | cons a fs ih =>
    intro i f g h1 h2
    cases i with
    | zero => simp [wrs] at h1 h2; rw [← h2, ← h1]
    | succ i => exact ih i f g (by simpa using h1) (by simpa [wrs] using h2)

section
variable (v : Int) (flex : Bool) (f : F)
theorem fieldW_list (p : T → List UInt8) (t : T) (h : f.kind = 11) : fieldW v flex f p t = if f.nul v t then counted flex true 0 4 else counted flex false (t.l.take most).length 4 ++ (t.l.take most).flatMap (valW f.of p false flex) := by
  unfold fieldW; rw [if_pos h]
theorem fieldW_struct (p : T → List UInt8) (t : T) (h : f.kind = 10) (h2 : 0 ≤ f.null) : fieldW v flex f p t = if f.nul v t then fixed (-1) 1 else fixed 1 1 ++ p t := by
  unfold fieldW; rw [if_neg (by omega), if_pos ⟨h, h2⟩]
theorem fieldW_val (p : T → List UInt8) (t : T) (h : f.kind ≠ 11) (h2 : ¬ (f.kind = 10 ∧ 0 ≤ f.null)) : fieldW v flex f p t = valW f.kind p (f.nul v t) flex t := by
  unfold fieldW; rw [if_neg h, if_neg h2]
theorem fieldR_list (p : St → T × St) (h : f.kind = 11) : fieldR v flex f p = fun st => listR (f.may v) (valR f.of p false flex) (rdLen flex st) := by
  funext st; unfold fieldR; rw [if_pos h]
theorem fieldR_struct (p : St → T × St) (h : f.kind = 10) (h2 : 0 ≤ f.null) : fieldR v flex f p = fun st => if (rdI 1 st).1 ≠ -1 ∧ (rdI 1 st).2.isSome then p (rdI 1 st).2 else (Tnull, (rdI 1 st).2) := by
  funext st; unfold fieldR; rw [if_neg (by omega), if_pos ⟨h, h2⟩]
theorem fieldR_val (p : St → T × St) (h : f.kind ≠ 11) (h2 : ¬ (f.kind = 10 ∧ 0 ≤ f.null)) : fieldR v flex f p = valR f.kind p (f.may v) flex := by
  funext st; unfold fieldR; rw [if_neg h, if_neg h2]
theorem canonField_list (p : T → T) (t : T) (h : f.kind = 11) : canonField v f p t = if f.nul v t then Tnull else Tl ((t.l.take most).map (canonVal f.of p false)) := by
  unfold canonField; rw [if_pos h]
theorem canonField_struct (p : T → T) (t : T) (h : f.kind = 10) (h2 : 0 ≤ f.null) : canonField v f p t = if f.nul v t then Tnull else p t := by
  unfold canonField; rw [if_neg (by omega), if_pos ⟨h, h2⟩]
theorem canonField_val (p : T → T) (t : T) (h : f.kind ≠ 11) (h2 : ¬ (f.kind = 10 ∧ 0 ≤ f.null)) : canonField v f p t = canonVal f.kind p (f.nul v t) t := by
  unfold canonField; rw [if_neg h, if_neg h2]
end
theorem wr_eq (v : Int) (flex : Bool) (f : F) : wr v flex f = fieldW v flex f (asmW v flex f.sub (wrs v flex f.sub) (usuals f.sub)) := by cases f; rw [wr]
theorem rd_eq (v : Int) (flex : Bool) (f : F) : rd v flex f = fieldR v flex f (asmR v flex f.sub (rds v flex f.sub) (dfltOf f.sub)) := by cases f; rw [rd]
theorem canon_eq (v : Int) (flex : Bool) (f : F) : canon v flex f = canonField v f (asmC v flex f.sub (canons v flex f.sub) (usuals f.sub) (dfltOf f.sub)) := by cases f; rw [canon]
theorem okF_eq (v : Int) (flex : Bool) (f : F) : okF v flex f = ((scalar f.kind || (f.kind = 10 && okFs v flex f.sub) || (f.kind = 11 && (scalar f.of || (f.of = 10 && okFs v flex f.sub && someW v flex f.sub)))) && decide (f.sub.length ≤ most) && (decide (f.kind ≠ 10) || decide (f.null < 0) || f.may v || !f.has v) &&
    (decide (f.tag < 0) || okTagged v f)) := by cases f; rw [okF]; rfl

theorem valW_part (p : T → List UInt8) (null flex : Bool) (t : T) : valW 10 p null flex t = p t := by
  simp only [valW, show ¬ (10 : Nat) = 0 by decide, show ¬ (10 : Nat) = 7 by decide, show ¬ (10 : Nat) = 8 by decide, show ¬ (10 : Nat) = 9 by decide, if_false, if_true]
theorem valR_noPart (kind : Nat) (p q : St → T × St) (may flex : Bool) (h : kind ≠ 10) : valR kind p may flex = valR kind q may flex := by
  funext st; unfold valR; simp only [if_neg h]
theorem wr_pos (v : Int) (flex : Bool) (f : F) (hs : scalar f.kind = true) (t : T) : 1 ≤ (wr v flex f t).length := by
  have h : f.kind ≠ 11 ∧ f.kind ≠ 10 := by
    simp only [scalar, Bool.or_eq_true, decide_eq_true_eq] at hs; omega
  rw [wr_eq, fieldW_val _ _ _ _ _ h.1 (fun hc => h.2 hc.1)]
  exact valW_pos _ _ _ _ _ hs

theorem nul_may (f : F) (v : Int) (t : T) (h : f.nul v t = true) : f.may v = true := by
  simp only [F.nul, F.may, Bool.and_eq_true] at h ⊢
  exact h.2

/-- A field, its part's reader given. -/
theorem exact_field (v : Int) (flex : Bool) (f : F) (hok : okF v flex f = true) (hp : okFs v flex f.sub = true → All3 f.sub (rds v flex f.sub) (wrs v flex f.sub) (canons v flex f.sub) ∧ known f.sub < 4294967296) :
    (∀ t, KeysOk t → (wr v flex f t).length < 4294967296 → Exact (rd v flex f) (wr v flex f t) (canon v flex f t)) ∧ Strict (rd v flex f) := by
  rw [okF_eq] at hok
  simp only [Bool.and_eq_true] at hok
  obtain ⟨⟨⟨hok, -⟩, -⟩, -⟩ := hok
  simp only [rd_eq, wr_eq, canon_eq]
  by_cases h11 : f.kind = 11
  · have hof : scalar f.of = true ∨ (f.of = 10 ∧ okFs v flex f.sub = true ∧ someW v flex f.sub = true) := by
      simp only [h11, Bool.or_eq_true, Bool.and_eq_true, decide_eq_true_eq] at hok
      rcases hok with (hok | hok) | hok
      · simp [scalar] at hok
      · omega
      · rcases hok.2 with h | h
        · exact .inl h
        · exact .inr ⟨h.1.1, h.1.2, h.2⟩
    have hstrict : Strict (valR f.of (asmR v flex f.sub (rds v flex f.sub) (dfltOf f.sub)) false flex) := by
      by_cases h10 : f.of = 10
      · rcases hof with hof | hof
        · rw [h10] at hof; simp [scalar] at hof
        · exact strict_valR _ _ _ _ (strict_asm v flex (hp hof.2.1).1 _)
      · rw [valR_noPart f.of _ (fun st => (T.zero, st)) false flex h10]
        exact strict_valR f.of (fun st => (T.zero, st)) false flex rfl
    rw [fieldR_list _ _ _ _ h11]
    refine ⟨fun t hk hz => ?_, strict_listR flex _ _⟩
    rw [fieldW_list _ _ _ _ _ h11] at hz ⊢
    rw [canonField_list _ _ _ _ h11]
    by_cases hn : f.nul v t = true
    · rw [if_pos hn, if_pos hn, nul_may _ _ _ hn]
      exact exact_list_null flex _
    · rw [if_neg hn, List.length_append] at hz
      rw [if_neg hn, if_neg hn]
      refine exact_list flex _ _ _ _ hstrict (t.l.take most) (by rw [List.length_take]; omega) (fun x hx => ?_) (fun x hx => ?_)
      · have hkx := hk.l x (List.mem_of_mem_take hx)
        have hzx := flatMap_le (valW f.of (asmW v flex f.sub (wrs v flex f.sub) (usuals f.sub)) false flex) _ x hx
        refine exact_valR _ _ _ _ _ _ _ _ ?_ (fun h => by cases h)
        rcases hof with hof | ⟨h10, h2, h3⟩
        · exact .inl hof
        · refine .inr ⟨h10, exact_asm v flex (hp h2).1 _ _ (known_rds f.sub v flex).2.2.2.1 (hp h2).2 x hkx ?_⟩
          rw [h10, valW_part, ← h10] at hzx
          omega
      · rcases hof with hof | ⟨h10, h2, h3⟩
        · exact valW_pos _ _ _ _ _ hof
        · rw [h10, valW_part]
          refine someW_pos v flex f.sub _ _ x (known_rds f.sub v flex).2.1 h3 (fun i f' g h1 h2 hs t => ?_)
          rw [wrs_get v flex f.sub i f' g h1 h2]
          exact wr_pos v flex f' hs t
  · have hk10 : scalar f.kind = true ∨ (f.kind = 10 ∧ okFs v flex f.sub = true) := by
      simp only [Bool.or_eq_true, Bool.and_eq_true, decide_eq_true_eq] at hok
      rcases hok with (hok | hok) | hok
      · exact .inl hok
      · exact .inr hok
      · exact absurd hok.1 h11
    by_cases hns : f.kind = 10 ∧ 0 ≤ f.null
    · obtain ⟨h10, hn0⟩ := hns
      have hpp : All3 f.sub (rds v flex f.sub) (wrs v flex f.sub) (canons v flex f.sub) ∧ known f.sub < 4294967296 := by
        rcases hk10 with h | h
        · rw [h10] at h; simp [scalar] at h
        · exact hp h.2
      have hstr : ∀ x : Int, Strict (fun st => if x ≠ -1 ∧ st.isSome then asmR v flex f.sub (rds v flex f.sub) (dfltOf f.sub) st else (Tnull, st)) := by
        intro x
        simp [Strict]
      rw [fieldR_struct _ _ _ _ h10 hn0]
      refine ⟨fun t hk hz => ?_, rfl⟩
      rw [fieldW_struct _ _ _ _ _ h10 hn0] at hz ⊢
      rw [canonField_struct _ _ _ _ h10 hn0]
      by_cases hn : f.nul v t = true
      · rw [if_pos hn, if_pos hn]
        have e := (exact_rdI 1 (-1)).bind (c := []) (y := Tnull) (q := fun p st => if p ≠ -1 ∧ st.isSome then asmR v flex f.sub (rds v flex f.sub) (dfltOf f.sub) st else (Tnull, st))
          (by
            rw [show cn 1 (-1) = -1 by decide]
            simp only [ne_eq, not_true, false_and, if_false]
            exact Exact.nil _) hstr
        exact e.of_eq rfl (by simp) rfl
      · rw [if_neg hn, List.length_append] at hz
        rw [if_neg hn, if_neg hn]
        have ea := exact_asm v flex hpp.1 (usuals f.sub) (dfltOf f.sub) (known_rds f.sub v flex).2.2.2.1 hpp.2 t hk (by omega)
        have e := (exact_rdI 1 1).bind (c := asmW v flex f.sub (wrs v flex f.sub) (usuals f.sub) t) (y := asmC v flex f.sub (canons v flex f.sub) (usuals f.sub) (dfltOf f.sub) t)
          (q := fun p st => if p ≠ -1 ∧ st.isSome then asmR v flex f.sub (rds v flex f.sub) (dfltOf f.sub) st else (Tnull, st))
          (by
            rw [show cn 1 1 = 1 by decide]
            refine ⟨fun rest => ?_, fun k hk => ?_⟩
            · simp only [ne_eq, show ¬ (1 : Int) = -1 by decide, not_false_eq_true, Option.isSome_some, and_true, if_true]
              exact ea.all rest
            · simp only [ne_eq, show ¬ (1 : Int) = -1 by decide, not_false_eq_true, Option.isSome_some, and_true, if_true]
              exact ea.cut k hk) hstr
        exact e.of_eq rfl rfl rfl
    · rw [fieldR_val _ _ _ _ h11 hns]
      refine ⟨fun t hk hz => ?_, ?_⟩
      · rw [fieldW_val _ _ _ _ _ h11 hns] at hz ⊢
        rw [canonField_val _ _ _ _ h11 hns]
        refine exact_valR _ _ _ _ _ _ _ _ ?_ (nul_may _ _ _)
        rcases hk10 with h | ⟨h10, h2⟩
        · exact .inl h
        · rw [h10, valW_part] at hz
          exact .inr ⟨h10, exact_asm v flex (hp h2).1 _ _ (known_rds f.sub v flex).2.2.2.1 (hp h2).2 t hk hz⟩
      · rcases hk10 with h | ⟨h10, h2⟩
        · have h10 : f.kind ≠ 10 := by intro h10; rw [h10] at h; simp [scalar] at h
          rw [valR_noPart _ _ (fun st => (T.zero, st)) _ _ h10]
          exact strict_valR _ _ _ _ rfl
        · exact strict_valR _ _ _ _ (strict_asm v flex (hp h2).1 _)

mutual
theorem exact_rd (v : Int) (flex : Bool) : ∀ (f : F), okF v flex f = true → (∀ t, KeysOk t → (wr v flex f t).length < 4294967296 → Exact (rd v flex f) (wr v flex f t) (canon v flex f t)) ∧ Strict (rd v flex f)
  | .mk _ _ _ _ _ _ _ sub => fun hok => exact_field v flex _ hok (fun h => exact_rds v flex sub h)
theorem exact_rds (v : Int) (flex : Bool) : ∀ (fs : List F), okFs v flex fs = true → All3 fs (rds v flex fs) (wrs v flex fs) (canons v flex fs) ∧ known fs < 4294967296
  | [] => fun _ => ⟨.nil, by simp [known]⟩
  | f :: fs => fun h => by
    simp only [okFs, Bool.and_eq_true, decide_eq_true_eq] at h
    have h1 := exact_rd v flex f h.1.1.1
    have h2 := exact_rds v flex fs h.2
    refine ⟨.cons h1.1 h1.2 ?_ h2.1, ?_⟩
    · have := h.1.2
      simp only [Bool.or_eq_true, decide_eq_true_eq, List.all_eq_true] at this
      exact this
    · simp only [known]
      have := h2.2
      have := h.1.1.2
      split <;> omega
end

/-- What is written of a part is read, and of fewer octets it is an error. -/
theorem exact_part (v : Int) (flex : Bool) (fs : List F) (hok : okFs v flex fs = true) (t : T) (hk : KeysOk t) (hz : (part v flex fs t).length < 4294967296) :
    Exact (rdPart v flex fs) (part v flex fs t) (canonPart v flex fs t) := by
  have h := exact_rds v flex fs hok
  exact exact_asm v flex h.1 (usuals fs) (dfltOf fs) (known_rds fs v flex).2.2.2.1 h.2 t hk hz
theorem strict_part (v : Int) (flex : Bool) (fs : List F) (hok : okFs v flex fs = true) : Strict (rdPart v flex fs) := strict_asm v flex (exact_rds v flex fs hok).1 _

/-! ## What was read is written as it stood there -/

theorem s_Ts (b : List UInt8) : (Ts b).s = b := rfl
theorem uuid_length (s : List UInt8) : (uuid s).length = 16 := by simp only [uuid, List.length_append, List.length_take, List.length_replicate]; omega
theorem uuid_of (b : List UInt8) (hl : b.length = 16) : uuid b = b := by
  unfold uuid
  rw [hl, List.take_of_length_le (by omega)]
  simp
theorem valW_canon (kind : Nat) (pw : T → List UInt8) (pc : T → T) (null flex : Bool) (t : T) (hs : scalar kind = true ∨ (kind = 10 ∧ pw (pc t) = pw t)) :
    valW kind pw null flex (canonVal kind pc null t) = valW kind pw null flex t := by
  have hc : kind = 0 ∨ kind = 1 ∨ kind = 2 ∨ kind = 3 ∨ kind = 4 ∨ kind = 5 ∨ kind = 7 ∨ kind = 8 ∨ kind = 9 ∨ (kind = 10 ∧ pw (pc t) = pw t) := by
    rcases hs with hs | hs
    · simp only [scalar, Bool.or_eq_true, decide_eq_true_eq] at hs; omega
    · simp only [hs, true_and]; simp
  have htk : (t.s.take most).take most = t.s.take most := by rw [List.take_take, Nat.min_self]
  rcases hc with rfl | rfl | rfl | rfl | rfl | rfl | rfl | rfl | rfl | ⟨rfl, he⟩
  · simp [valW, canonVal, Tn]
  · simp [valW, canonVal, Tn, width, fixed_cn]
  · simp [valW, canonVal, Tn, width, fixed_cn]
  · simp [valW, canonVal, Tn, width, fixed_cn]
  · simp [valW, canonVal, Tn, width, fixed_cn]
  · have h := fixed_mod t.n 2 2 (Nat.le_refl _)
    simp only [valW, canonVal, Tn, width]
    simp
    exact h
  · simp only [valW, canonVal, show ¬ (7 : Nat) = 0 by decide, show ¬ (7 : Nat) = 5 by decide, if_false, if_true]
    exact uuid_of _ (uuid_length _)
  · simp only [valW, canonVal, show ¬ (8 : Nat) = 0 by decide, show ¬ (8 : Nat) = 5 by decide, show ¬ (8 : Nat) = 7 by decide, if_false, if_true, true_or]
    cases null
    · simp [s_Ts, htk]
    · simp
  · simp only [valW, canonVal, show ¬ (9 : Nat) = 0 by decide, show ¬ (9 : Nat) = 5 by decide, show ¬ (9 : Nat) = 7 by decide, show ¬ (9 : Nat) = 8 by decide, if_false, if_true, or_true]
    cases null
    · simp [s_Ts, htk]
    · simp
  · rw [valW_part, valW_part]
    simp only [canonVal, show ¬ (10 : Nat) = 0 by decide, show ¬ (10 : Nat) = 5 by decide, show ¬ (10 : Nat) = 7 by decide, show ¬ (10 : Nat) = 8 by decide, show ¬ (10 : Nat) = 9 by decide, if_false, if_true, or_self]
    exact he

theorem canonVal_null (kind : Nat) (pc : T → T) (t : T) (h : scalar kind = true ∨ (kind = 10 ∧ (pc t).null = false)) (null : Bool) : (canonVal kind pc null t).null = (null && (kind = 8 || kind = 9)) := by
  have hc : kind = 0 ∨ kind = 1 ∨ kind = 2 ∨ kind = 3 ∨ kind = 4 ∨ kind = 5 ∨ kind = 7 ∨ kind = 8 ∨ kind = 9 ∨ (kind = 10 ∧ (pc t).null = false) := by
    rcases h with hs | hs
    · simp only [scalar, Bool.or_eq_true, decide_eq_true_eq] at hs; omega
    · simp only [hs, true_and]; simp
  rcases hc with rfl | rfl | rfl | rfl | rfl | rfl | rfl | rfl | rfl | ⟨rfl, he⟩
  · simp [canonVal, Tn]
  · simp [canonVal, Tn]
  · simp [canonVal, Tn]
  · simp [canonVal, Tn]
  · simp [canonVal, Tn]
  · simp [canonVal, Tn]
  · simp [canonVal, Ts]
  · cases null <;> simp [canonVal, Ts, Tnull]
  · cases null <;> simp [canonVal, Ts, Tnull]
  · simp [canonVal, he]

inductive AllC (flex : Bool) : List F → List (T → List UInt8) → List (T → T) → List (T → Bool) → List T → Prop
  | nil : AllC flex [] [] [] [] []
  | cons {f : F} {w : T → List UInt8} {c : T → T} {q : T → Bool} {d : T} {fs : List F} {ws : List (T → List UInt8)} {cs : List (T → T)} {qs : List (T → Bool)} {ds : List T} :
      (∀ t, w (c t) = w t) → (flex = true → f.tag < 0 ∨ (∀ t, q (c t) = q t) ∧ q d = true) → AllC flex fs ws cs qs ds → AllC flex (f :: fs) (w :: ws) (c :: cs) (q :: qs) (d :: ds)

theorem plainW_canon (v : Int) (m : Int) {flex : Bool} {fs : List F} {ws : List (T → List UInt8)} {cs : List (T → T)} {qs : List (T → Bool)} {ds : List T} (h : AllC flex fs ws cs qs ds) :
    ∀ ts, plainW v fs ws (tagC m fs cs qs (plainC v fs cs ds ts) ts) = plainW v fs ws ts := by
  induction h with
  | nil => intro ts; simp [plainW]
  | @cons f w c q d fs ws cs qs ds h1 h2 h3 ih =>
    intro ts
    simp only [plainW, plainC, tagC, List.headD_cons, List.tail_cons, ih]
    congr 1
    by_cases hc : f.tag < 0 ∧ f.has v = true
    · rw [if_pos hc, if_pos hc, if_neg (by omega), if_pos hc, h1]
    · rw [if_neg hc, if_neg hc]
theorem tagW_canon (v : Int) (m : Nat) (n : Nat) (hmn : m < n) {fs : List F} {ws : List (T → List UInt8)} {cs : List (T → T)} {qs : List (T → Bool)} {ds : List T} (h : AllC true fs ws cs qs ds) :
    ∀ ts, tagW m fs ws qs (tagC n fs cs qs (plainC v fs cs ds ts) ts) = tagW m fs ws qs ts := by
  induction h with
  | nil => intro ts; simp [tagW]
  | @cons f w c q d fs ws cs qs ds h1 h2 h3 ih =>
    intro ts
    simp only [tagW, plainC, tagC, List.headD_cons, List.tail_cons, ih]
    congr 1
    by_cases hm : f.tag = m
    · obtain ⟨h2, h4⟩ : (∀ t, q (c t) = q t) ∧ q d = true := by
        rcases h2 rfl with h2 | h2
        · omega
        · exact h2
      by_cases hu : q (ts.headD T.zero) = true
      · have e : (if 0 ≤ f.tag ∧ f.tag < (n : Int) ∧ ¬q (ts.headD T.zero) = true then c (ts.headD T.zero) else if f.tag < 0 ∧ f.has v = true then c (ts.headD T.zero) else d) = d := by
          rw [if_neg (fun h => h.2.2 hu), if_neg (by omega)]
        rw [e, if_neg (fun h => h.2 h4), if_neg (fun h => h.2 hu)]
      · have e : (if 0 ≤ f.tag ∧ f.tag < (n : Int) ∧ ¬q (ts.headD T.zero) = true then c (ts.headD T.zero) else if f.tag < 0 ∧ f.has v = true then c (ts.headD T.zero) else d) = c (ts.headD T.zero) := by
          rw [if_pos ⟨by omega, by omega, hu⟩]
        rw [e, h2, h1]
    · rw [if_neg (fun h => hm h.1), if_neg (fun h => hm h.1)]

theorem knownW_canon (v : Int) {fs : List F} {ws : List (T → List UInt8)} {cs : List (T → T)} {qs : List (T → Bool)} {ds : List T} (h : AllC true fs ws cs qs ds) (ts : List T) :
    knownW fs ws qs (tagC (known fs) fs cs qs (plainC v fs cs ds ts) ts) = knownW fs ws qs ts := by
  unfold knownW
  have key : ∀ (l : List Nat), (∀ x ∈ l, x < known fs) → (l.flatMap fun tag => tagW tag fs ws qs (tagC (known fs) fs cs qs (plainC v fs cs ds ts) ts)) = l.flatMap fun tag => tagW tag fs ws qs ts := by
    intro l
    induction l with
    | nil => intro _; rfl
    | cons a l ih =>
      intro hl
      rw [List.flatMap_cons, List.flatMap_cons, ih (fun x hx => hl x (List.mem_cons_of_mem _ hx)), tagW_canon v a (known fs) (hl a (by simp)) h]
  exact key _ (fun x hx => List.mem_range.1 hx)

theorem whole2_map (l : List (Nat × List UInt8)) : (l.map whole2).map whole2 = l.map whole2 := by
  rw [List.map_map]
  congr 1
  funext x
  simp only [Function.comp, whole2]
  rw [List.take_take, Nat.min_self]
theorem sorted_map (l : List (Nat × List UInt8)) (h : Sorted l) : Sorted (l.map whole2) := by
  induction l with
  | nil => trivial
  | cons a l ih =>
    refine ⟨fun x hx => ?_, ih h.2⟩
    simp only [List.mem_map] at hx
    obtain ⟨y, hy, rfl⟩ := hx
    exact h.1 y hy
theorem unknown_canon (n : Nat) (u : List (Nat × List UInt8)) : (unknown n ((unknown n u).map whole2)).map whole2 = (unknown n u).map whole2 := by
  obtain ⟨us, ul, um, uk⟩ := unknown_spec n u
  rw [unknown_sorted n _ (sorted_map _ us) (by rw [List.length_map]; exact ul) (fun x hx => ?_), whole2_map]
  simp only [List.mem_map] at hx
  obtain ⟨y, hy, rfl⟩ := hx
  exact uk y hy

theorem asmW_canon (v : Int) (flex : Bool) {fs : List F} {ws : List (T → List UInt8)} {cs : List (T → T)} {qs : List (T → Bool)} {ds : List T} (h : AllC flex fs ws cs qs ds) (t : T) :
    asmW v flex fs ws qs (asmC v flex fs cs qs ds t) = asmW v flex fs ws qs t := by
  cases flex with
  | true =>
    simp only [asmW, asmC, if_true]
    rw [plainW_canon v _ h, knownW_canon v h, unknown_canon]
  | false =>
    simp only [asmW, asmC, Bool.false_eq_true, if_false]
    have := plainW_canon v 0 h t.l
    rw [tagC_zero] at this
    rw [this]
theorem asmC_null (v : Int) (flex : Bool) (fs : List F) (cs : List (T → T)) (qs : List (T → Bool)) (ds : List T) (t : T) : (asmC v flex fs cs qs ds t).null = false := by
  cases flex <;> rfl

theorem usual_eq (f : F) (t : T) : usual f t = (if f.kind = 0 then decide (t.n % 2 = f.dflt)
    else if f.kind = 7 then (t.s.take 16).all (· == 0)
    else if f.kind = 8 ∨ f.kind = 9 then (if 0 ≤ f.null then t.null else t.s.isEmpty)
    else if f.kind = 11 then t.l.isEmpty
    else if f.kind = 10 then allUsual (usuals f.sub) t.l && (unknown (known f.sub) t.u).isEmpty
    else fixed t.n (width f.kind) == fixed f.dflt (width f.kind)) := by cases f; rw [usual]
theorem dfltF_eq (f : F) : dfltF f = T.mk f.dflt [] (decide (0 ≤ f.null)) (if f.kind = 10 then dfltOf f.sub else []) [] := by cases f; rw [dfltF]

/-- A part of plain numbers that all are there. -/
theorem plain_usual (v : Int) (flex : Bool) : ∀ (fs : List F), (∀ g ∈ fs, intKind g.kind = true ∧ g.tag < 0 ∧ g.has v = true) → ∀ ts,
    allUsual (usuals fs) (plainC v fs (canons v flex fs) (dfltOf fs) ts) = allUsual (usuals fs) ts ∧ allUsual (usuals fs) (dfltOf fs) = true ∧ known fs = 0 := by
  intro fs
  induction fs with
  | nil => intro _ ts; simp [usuals, allUsual, known]
  | cons f fs ih =>
    intro h ts
    obtain ⟨h1, h2, h3⟩ := h f (by simp)
    obtain ⟨i1, i2, i3⟩ := ih (fun g hg => h g (List.mem_cons_of_mem _ hg)) ts.tail
    have hk : f.kind = 1 ∨ f.kind = 2 ∨ f.kind = 3 ∨ f.kind = 4 := by
      simp only [intKind, Bool.or_eq_true, decide_eq_true_eq] at h1; omega
    have hu : ∀ t, usual f t = (fixed t.n (width f.kind) == fixed f.dflt (width f.kind)) := by
      intro t
      rw [usual_eq, if_neg (by omega), if_neg (by omega), if_neg (by omega), if_neg (by omega), if_neg (by omega)]
    simp only [usuals, canons, dfltOf, plainC, allUsual, List.headD_cons, List.tail_cons, i1, i2, Bool.and_true]
    rw [if_pos ⟨h2, h3⟩]
    refine ⟨?_, ?_, ?_⟩
    · congr 1
      rw [hu, hu, canon_eq, canonField_val _ _ _ _ (by omega) (by omega)]
      have : canonVal f.kind (asmC v flex f.sub (canons v flex f.sub) (usuals f.sub) (dfltOf f.sub)) (f.nul v (ts.headD T.zero)) (ts.headD T.zero) = Tn (cn (width f.kind) (ts.headD T.zero).n) := by
        unfold canonVal
        rw [if_neg (by omega), if_neg (by omega), if_neg (by omega), if_neg (by omega), if_neg (by omega)]
      rw [this]
      simp only [Tn, fixed_cn]
    · rw [hu, dfltF_eq]
      simp
    · simp only [known, i3]
      rw [if_neg (by omega)]
      rfl

theorem usual_canon (v : Int) (flex : Bool) (hfl : flex = true) (f : F) (hok : okTagged v f = true) : (∀ t, usual f (canon v flex f t) = usual f t) ∧ usual f (dfltF f) = true := by
  have hc : (f.kind = 1 ∨ f.kind = 2 ∨ f.kind = 3 ∨ f.kind = 4) ∨ f.kind = 7 ∨ (f.kind = 8 ∧ f.may v = true) ∨ (f.kind = 11 ∧ f.null < 0) ∨
      (f.kind = 10 ∧ f.null < 0 ∧ ∀ g ∈ f.sub, intKind g.kind = true ∧ g.tag < 0 ∧ g.has v = true) := by
    simp only [okTagged, intKind, Bool.or_eq_true, Bool.and_eq_true, decide_eq_true_eq, List.all_eq_true] at hok
    rcases hok with (((h | h) | h) | h) | h
    · left; omega
    · exact .inr (.inl h)
    · exact .inr (.inr (.inl h))
    · exact .inr (.inr (.inr (.inl h)))
    · refine .inr (.inr (.inr (.inr ⟨h.1.1, h.1.2, fun g hg => ?_⟩)))
      have := h.2 g hg
      refine ⟨?_, this.1.2, this.2⟩
      simp only [intKind, Bool.or_eq_true, decide_eq_true_eq]
      exact this.1.1
  rcases hc with hk | hk | ⟨hk, hm⟩ | ⟨hk, hm⟩ | ⟨hk, hm, hs⟩
  · have hu : ∀ t, usual f t = (fixed t.n (width f.kind) == fixed f.dflt (width f.kind)) := by
      intro t
      rw [usual_eq, if_neg (by omega), if_neg (by omega), if_neg (by omega), if_neg (by omega), if_neg (by omega)]
    refine ⟨fun t => ?_, ?_⟩
    · rw [hu, hu, canon_eq, canonField_val _ _ _ _ (by omega) (by omega)]
      have : canonVal f.kind (asmC v flex f.sub (canons v flex f.sub) (usuals f.sub) (dfltOf f.sub)) (f.nul v t) t = Tn (cn (width f.kind) t.n) := by
        unfold canonVal
        rw [if_neg (by omega), if_neg (by omega), if_neg (by omega), if_neg (by omega), if_neg (by omega)]
      rw [this]
      simp only [Tn, fixed_cn]
    · rw [hu, dfltF_eq]; simp
  · have hu : ∀ t, usual f t = (t.s.take 16).all (· == 0) := by
      intro t
      rw [usual_eq, if_neg (by omega), if_pos hk]
    refine ⟨fun t => ?_, ?_⟩
    · rw [hu, hu, canon_eq, canonField_val _ _ _ _ (by omega) (by omega), hk]
      simp only [canonVal, show ¬ (7 : Nat) = 0 by decide, show ¬ (7 : Nat) = 5 by decide, if_false, if_true, Ts]
      have hl := uuid_length t.s
      rw [List.take_of_length_le (by omega)]
      unfold uuid
      rw [List.all_append]
      have : (List.replicate (16 - t.s.length) (0 : UInt8)).all (· == 0) = true := by
        simp
      rw [this, Bool.and_true]
    · rw [hu, dfltF_eq]; simp
  · have hn : 0 ≤ f.null := by
      simp only [F.may, Bool.and_eq_true, decide_eq_true_eq] at hm; exact hm.1
    have hu : ∀ t, usual f t = t.null := by
      intro t
      rw [usual_eq, if_neg (by omega), if_neg (by omega), if_pos (by omega), if_pos hn]
    have hnul : ∀ t, f.nul v t = t.null := by
      intro t
      simp only [F.may] at hm
      simp only [F.nul, hm, Bool.and_true]
    refine ⟨fun t => ?_, ?_⟩
    · rw [hu, hu, canon_eq, canonField_val _ _ _ _ (by omega) (by omega), canonVal_null _ _ _ (.inl (by rw [hk]; rfl)), hnul, hk]
      simp
    · rw [hu, dfltF_eq]; simp [hn]
  · have hu : ∀ t, usual f t = t.l.isEmpty := by
      intro t
      rw [usual_eq, if_neg (by omega), if_neg (by omega), if_neg (by omega), if_pos hk]
    have hnul : ∀ t, f.nul v t = false := by
      intro t
      simp only [F.nul, show decide (0 ≤ f.null) = false by simp; omega, Bool.false_and, Bool.and_false]
    refine ⟨fun t => ?_, ?_⟩
    · rw [hu, hu, canon_eq, canonField_list _ _ _ _ hk, hnul]
      simp only [Bool.false_eq_true, if_false, Tl]
      cases t.l with
      | nil => rfl
      | cons a l => rfl
    · rw [hu, dfltF_eq, if_neg (by omega)]; rfl
  · have hu : ∀ t, usual f t = (allUsual (usuals f.sub) t.l && (unknown (known f.sub) t.u).isEmpty) := by
      intro t
      rw [usual_eq, if_neg (by omega), if_neg (by omega), if_neg (by omega), if_neg (by omega), if_pos hk]
    refine ⟨fun t => ?_, ?_⟩
    · obtain ⟨p1, p2, p3⟩ := plain_usual v flex f.sub hs t.l
      rw [hu, hu, canon_eq, canonField_val _ _ _ _ (by omega) (by omega), hk]
      simp only [canonVal, show ¬ (10 : Nat) = 0 by decide, show ¬ (10 : Nat) = 5 by decide, show ¬ (10 : Nat) = 7 by decide, show ¬ (10 : Nat) = 8 by decide, show ¬ (10 : Nat) = 9 by decide, if_false, if_true, or_self]
      subst hfl
      simp only [asmC, if_true, p3]
      rw [show (((0 : Nat) : Int)) = 0 from rfl, tagC_zero, p1]
      congr 1
      have := unknown_canon 0 t.u
      cases hx : unknown 0 t.u with
      | nil => rfl
      | cons a l =>
        rw [hx] at this
        cases hy : unknown 0 ((a :: l).map whole2) with
        | nil => rw [hy] at this; simp at this
        | cons b l' => rfl
    · rw [hu, dfltF_eq, if_pos hk]
      simp only [(plain_usual v flex f.sub hs []).2.1, Bool.true_and]
      rfl

theorem wr_canon_field (v : Int) (flex : Bool) (f : F) (hok : okF v flex f = true) (hp : okFs v flex f.sub = true → AllC flex f.sub (wrs v flex f.sub) (canons v flex f.sub) (usuals f.sub) (dfltOf f.sub)) :
    ∀ t, wr v flex f (canon v flex f t) = wr v flex f t := by
  intro t
  rw [okF_eq] at hok
  simp only [Bool.and_eq_true] at hok
  obtain ⟨⟨⟨hok, -⟩, -⟩, -⟩ := hok
  simp only [wr_eq, canon_eq]
  have hpart : okFs v flex f.sub = true → ∀ t, asmW v flex f.sub (wrs v flex f.sub) (usuals f.sub) (asmC v flex f.sub (canons v flex f.sub) (usuals f.sub) (dfltOf f.sub) t) =
      asmW v flex f.sub (wrs v flex f.sub) (usuals f.sub) t := fun h t => asmW_canon v flex (hp h) t
  have hTn : ∀ t, f.nul v t = true → f.nul v Tnull = true := by
    intro t h
    simp only [F.nul, Bool.and_eq_true] at h ⊢
    exact ⟨rfl, h.2⟩
  have hF : ∀ x : T, x.null = false → f.nul v x = false := by
    intro x h
    simp only [F.nul, h, Bool.false_and]
  by_cases h11 : f.kind = 11
  · have hof : scalar f.of = true ∨ (f.of = 10 ∧ okFs v flex f.sub = true) := by
      simp only [h11, Bool.or_eq_true, Bool.and_eq_true, decide_eq_true_eq] at hok
      rcases hok with (hok | hok) | hok
      · simp [scalar] at hok
      · omega
      · rcases hok.2 with h | h
        · exact .inl h
        · exact .inr ⟨h.1.1, h.1.2⟩
    rw [fieldW_list _ _ _ _ _ h11, fieldW_list _ _ _ _ _ h11, canonField_list _ _ _ _ h11]
    by_cases hn : f.nul v t = true
    · rw [if_pos hn, if_pos (hTn t hn), if_pos hn]
    · rw [if_neg hn, if_neg hn, if_neg (by rw [hF _ rfl]; simp)]
      simp only [Tl]
      have hl : ((t.l.take most).map (canonVal f.of (asmC v flex f.sub (canons v flex f.sub) (usuals f.sub) (dfltOf f.sub)) false)).length ≤ most := by
        rw [List.length_map, List.length_take]; omega
      rw [List.take_of_length_le hl, List.length_map]
      congr 1
      generalize t.l.take most = l
      induction l with
      | nil => rfl
      | cons a l ih =>
        rw [List.map_cons, List.flatMap_cons, List.flatMap_cons, ih]
        congr 1
        refine valW_canon _ _ _ _ _ _ ?_
        rcases hof with h | h
        · exact .inl h
        · exact .inr ⟨h.1, hpart h.2 a⟩
  · have hk10 : scalar f.kind = true ∨ (f.kind = 10 ∧ okFs v flex f.sub = true) := by
      simp only [Bool.or_eq_true, Bool.and_eq_true, decide_eq_true_eq] at hok
      rcases hok with (hok | hok) | hok
      · exact .inl hok
      · exact .inr hok
      · exact absurd hok.1 h11
    by_cases hns : f.kind = 10 ∧ 0 ≤ f.null
    · obtain ⟨h10, hn0⟩ := hns
      have hs : okFs v flex f.sub = true := by
        rcases hk10 with h | h
        · rw [h10] at h; simp [scalar] at h
        · exact h.2
      rw [fieldW_struct _ _ _ _ _ h10 hn0, fieldW_struct _ _ _ _ _ h10 hn0, canonField_struct _ _ _ _ h10 hn0]
      by_cases hn : f.nul v t = true
      · rw [if_pos hn, if_pos (hTn t hn), if_pos hn]
      · rw [if_neg hn, if_neg hn, if_neg (by rw [hF _ (asmC_null _ _ _ _ _ _ _)]; simp), hpart hs]
    · rw [fieldW_val _ _ _ _ _ h11 hns, fieldW_val _ _ _ _ _ h11 hns, canonField_val _ _ _ _ h11 hns]
      have hx : scalar f.kind = true ∨ (f.kind = 10 ∧ asmW v flex f.sub (wrs v flex f.sub) (usuals f.sub) (asmC v flex f.sub (canons v flex f.sub) (usuals f.sub) (dfltOf f.sub) t) =
          asmW v flex f.sub (wrs v flex f.sub) (usuals f.sub) t) := by
        rcases hk10 with h | h
        · exact .inl h
        · exact .inr ⟨h.1, hpart h.2 t⟩
      have hnull := canonVal_null f.kind (asmC v flex f.sub (canons v flex f.sub) (usuals f.sub) (dfltOf f.sub)) t (by
        rcases hk10 with h | h
        · exact .inl h
        · exact .inr ⟨h.1, asmC_null _ _ _ _ _ _ _⟩) (f.nul v t)
      have e := valW_canon f.kind (asmW v flex f.sub (wrs v flex f.sub) (usuals f.sub)) (asmC v flex f.sub (canons v flex f.sub) (usuals f.sub) (dfltOf f.sub)) (f.nul v t) flex t hx
      by_cases h89 : f.kind = 8 ∨ f.kind = 9
      · have : f.nul v (canonVal f.kind (asmC v flex f.sub (canons v flex f.sub) (usuals f.sub) (dfltOf f.sub)) (f.nul v t) t) = f.nul v t := by
          have hb : (decide (f.kind = 8) || decide (f.kind = 9)) = true := by
            rcases h89 with h | h <;> simp [h]
          rw [hb, Bool.and_true] at hnull
          cases hn : f.nul v t with
          | true =>
            have := hTn t hn
            simp only [F.nul, Bool.and_eq_true] at this ⊢
            rw [hn] at hnull
            exact ⟨hnull, this.2⟩
          | false =>
            rw [hn] at hnull
            exact hF _ hnull
        rw [this]
        exact e
      · have hv : ∀ (x : T) (b : Bool), valW f.kind (asmW v flex f.sub (wrs v flex f.sub) (usuals f.sub)) b flex x = valW f.kind (asmW v flex f.sub (wrs v flex f.sub) (usuals f.sub)) (f.nul v t) flex x := by
          intro x b
          unfold valW
          rw [if_neg (show ¬ f.kind = 8 by omega), if_neg (show ¬ f.kind = 9 by omega), if_neg (show ¬ f.kind = 8 by omega), if_neg (show ¬ f.kind = 9 by omega)]
        rw [hv]
        exact e
mutual
theorem wr_canon (v : Int) (flex : Bool) : ∀ (f : F), okF v flex f = true → ∀ t, wr v flex f (canon v flex f t) = wr v flex f t
  | .mk _ _ _ _ _ _ _ sub => fun hok => wr_canon_field v flex _ hok (fun h => wrs_canon v flex sub h)
theorem wrs_canon (v : Int) (flex : Bool) : ∀ (fs : List F), okFs v flex fs = true → AllC flex fs (wrs v flex fs) (canons v flex fs) (usuals fs) (dfltOf fs)
  | [] => fun _ => .nil
  | f :: fs => fun h => by
    simp only [okFs, Bool.and_eq_true, decide_eq_true_eq] at h
    refine .cons (wr_canon v flex f h.1.1.1) (fun hf => ?_) (wrs_canon v flex fs h.2)
    have h1 := h.1.1.1
    rw [okF_eq, Bool.and_eq_true, Bool.or_eq_true, decide_eq_true_eq] at h1
    rcases h1.2 with h2 | h2
    · exact .inl h2
    · exact .inr (usual_canon v flex hf f h2)
end
theorem part_canon (v : Int) (flex : Bool) (fs : List F) (hok : okFs v flex fs = true) (t : T) : part v flex fs (canonPart v flex fs t) = part v flex fs t :=
  asmW_canon v flex (wrs_canon v flex fs hok) t

/-! ## Nothing is longer than a text, or a list, may be -/

inductive Fit : T → Prop
  | mk (n : Int) (s : List UInt8) (b : Bool) (l : List T) (u : List (Nat × List UInt8)) : s.length ≤ most → u.length ≤ most → (∀ x ∈ u, x.1 < 4294967296 ∧ x.2.length ≤ most) → l.length ≤ most → (∀ x ∈ l, Fit x) → Fit (.mk n s b l u)
section
variable {t : T} (h : Fit t)
include h
theorem Fit.fs : t.s.length ≤ most := by cases h; assumption
theorem Fit.fu : t.u.length ≤ most := by cases h; assumption
theorem Fit.fx : ∀ x ∈ t.u, x.1 < 4294967296 ∧ x.2.length ≤ most := by cases h; assumption
theorem Fit.fl : t.l.length ≤ most := by cases h; assumption
theorem Fit.fa : ∀ x ∈ t.l, Fit x := by cases h; assumption
end
theorem Fit.num (n : Int) (b : Bool) : Fit (.mk n [] b [] []) := .mk _ _ _ _ _ (by simp) (by simp) (fun _ h => absurd h (by simp)) (by simp) (fun _ h => absurd h (by simp))
theorem Fit.text (s : List UInt8) (h : s.length ≤ most) : Fit (Ts s) := .mk _ _ _ _ _ h (by simp) (fun _ h => absurd h (by simp)) (by simp) (fun _ h => absurd h (by simp))
theorem Fit.list (l : List T) (h : l.length ≤ most) (hl : ∀ x ∈ l, Fit x) : Fit (Tl l) := .mk _ _ _ _ _ (by simp) (by simp) (fun _ h => absurd h (by simp)) h hl
theorem Fit.keys {t : T} (h : Fit t) : KeysOk t := by
  induction h with
  | mk n s b l u h1 h2 h3 h4 h5 ih => exact .mk _ _ _ _ _ (fun x hx => (h3 x hx).1) ih
theorem Fit.head {l : List T} (h : ∀ x ∈ l, Fit x) : Fit (l.headD T.zero) := by
  cases l with
  | nil => exact Fit.num 0 false
  | cons a l => exact h a (by simp)

mutual
theorem fit_dflt (v : Int) (flex : Bool) : ∀ (f : F), okF v flex f = true → Fit (dfltF f)
  | .mk kind frm to null tag dflt of sub => fun h => by
    rw [dfltF]
    by_cases hk : kind = 10
    · subst hk
      simp [okF, scalar] at h
      rw [if_pos rfl]
      have := fit_dflts v flex sub h.1.1.1
      exact .mk _ _ _ _ _ (by simp) (by simp) (fun _ h => absurd h (by simp)) (by rw [(known_rds sub v flex).2.2.2.2]; exact h.1.1.2) this
    · rw [if_neg hk]
      exact Fit.num _ _
theorem fit_dflts (v : Int) (flex : Bool) : ∀ (fs : List F), okFs v flex fs = true → ∀ x ∈ dfltOf fs, Fit x
  | [] => fun _ x hx => by simp [dfltOf] at hx
  | f :: fs => fun h x hx => by
    simp only [okFs, Bool.and_eq_true, decide_eq_true_eq] at h
    simp only [dfltOf, List.mem_cons] at hx
    rcases hx with rfl | hx
    · exact fit_dflt v flex f h.1.1.1
    · exact fit_dflts v flex fs h.2 x hx
end

theorem fit_plainC (v : Int) : ∀ (fs : List F) (cs : List (T → T)) (ds ts : List T), (∀ c ∈ cs, ∀ t, KeysOk t → Fit (c t)) → (∀ d ∈ ds, Fit d) → (∀ t ∈ ts, KeysOk t) → (∀ x ∈ plainC v fs cs ds ts, Fit x) ∧ (plainC v fs cs ds ts).length ≤ fs.length := by
  intro fs
  induction fs with
  | nil => intro cs ds ts _ _ _; simp [plainC]
  | cons f fs ih =>
    intro cs ds ts hc hd ht
    cases cs with
    | nil => simp [plainC]
    | cons c cs =>
      obtain ⟨i1, i2⟩ := ih cs ds.tail ts.tail (fun c' h => hc c' (List.mem_cons_of_mem _ h)) (fun d h => hd d (List.mem_of_mem_tail h)) (fun t h => ht t (List.mem_of_mem_tail h))
      simp only [plainC, List.length_cons]
      refine ⟨fun x hx => ?_, by omega⟩
      simp only [List.mem_cons] at hx
      rcases hx with rfl | hx
      · split
        · exact hc c (by simp) _ (KeysOk.head ht)
        · exact Fit.head hd
      · exact i1 x hx
theorem fit_tagC (m : Int) : ∀ (fs : List F) (cs : List (T → T)) (qs : List (T → Bool)) (ds ts : List T), (∀ c ∈ cs, ∀ t, KeysOk t → Fit (c t)) → (∀ d ∈ ds, Fit d) → (∀ t ∈ ts, KeysOk t) → (∀ x ∈ tagC m fs cs qs ds ts, Fit x) ∧ (tagC m fs cs qs ds ts).length = ds.length := by
  intro fs
  induction fs with
  | nil => intro cs qs ds ts _ hd _; simp only [tagC]; exact ⟨hd, trivial⟩
  | cons f fs ih =>
    intro cs qs ds ts hc hd ht
    cases cs with
    | nil => simp only [tagC]; exact ⟨hd, trivial⟩
    | cons c cs =>
      cases qs with
      | nil => simp only [tagC]; exact ⟨hd, trivial⟩
      | cons q qs =>
        cases ds with
        | nil => simp only [tagC]; exact ⟨hd, trivial⟩
        | cons d ds =>
          obtain ⟨i1, i2⟩ := ih cs qs ds ts.tail (fun c' h => hc c' (List.mem_cons_of_mem _ h)) (fun d h => hd d (List.mem_cons_of_mem _ h)) (fun t h => ht t (List.mem_of_mem_tail h))
          simp only [tagC, List.length_cons]
          refine ⟨fun x hx => ?_, by omega⟩
          simp only [List.mem_cons] at hx
          rcases hx with rfl | hx
          · split
            · exact hc c (by simp) _ (KeysOk.head ht)
            · exact hd d (by simp)
          · exact i1 x hx
theorem fit_asmC (v : Int) (flex : Bool) (fs : List F) (cs : List (T → T)) (qs : List (T → Bool)) (ds : List T) (t : T) (hl : fs.length ≤ most) (hc : ∀ c ∈ cs, ∀ t, KeysOk t → Fit (c t)) (hd : ∀ d ∈ ds, Fit d) (hk : KeysOk t) :
    Fit (asmC v flex fs cs qs ds t) := by
  obtain ⟨p1, p2⟩ := fit_plainC v fs cs ds t.l hc hd hk.l
  cases flex with
  | false => exact .mk _ _ _ _ _ (by simp) (by simp) (fun _ h => absurd h (by simp)) (by omega) p1
  | true =>
    obtain ⟨q1, q2⟩ := fit_tagC (known fs) fs cs qs _ t.l hc p1 hk.l
    obtain ⟨us, ul, um, uk⟩ := unknown_spec (known fs) t.u
    refine .mk _ _ _ _ _ (by simp) (by rw [List.length_map]; exact ul) (fun x hx => ?_) (by omega) q1
    simp only [List.mem_map] at hx
    obtain ⟨y, hy, rfl⟩ := hx
    refine ⟨hk.u y (um y hy), ?_⟩
    show (y.2.take most).length ≤ most
    rw [List.length_take]; omega
theorem fit_canonVal (kind : Nat) (pc : T → T) (null : Bool) (t : T) (_hk : KeysOk t) (hp : kind = 10 → Fit (pc t)) : Fit (canonVal kind pc null t) := by
  unfold canonVal
  split
  · exact Fit.num _ _
  split
  · exact Fit.num _ _
  split
  · exact Fit.text _ (by rw [uuid_length]; decide)
  split
  · split
    · exact Fit.num _ _
    · exact Fit.text _ (by rw [List.length_take]; omega)
  split
  · exact hp (by assumption)
  · exact Fit.num _ _
theorem fit_canon_field (v : Int) (flex : Bool) (f : F) (hok : okF v flex f = true) (hp : okFs v flex f.sub = true → ∀ c ∈ canons v flex f.sub, ∀ t, KeysOk t → Fit (c t)) :
    ∀ t, KeysOk t → Fit (canon v flex f t) := by
  intro t hk
  rw [okF_eq] at hok
  simp only [Bool.and_eq_true, decide_eq_true_eq] at hok
  obtain ⟨⟨⟨hok, hlen⟩, hmay⟩, -⟩ := hok
  rw [canon_eq]
  have hpart : okFs v flex f.sub = true → ∀ t, KeysOk t → Fit (asmC v flex f.sub (canons v flex f.sub) (usuals f.sub) (dfltOf f.sub) t) := fun h t ht =>
    fit_asmC v flex _ _ _ _ t hlen (hp h) (fit_dflts v flex f.sub h) ht
  have hsub : (f.kind = 11 → f.of = 10 → okFs v flex f.sub = true) ∧ (f.kind = 10 → okFs v flex f.sub = true) := by
    refine ⟨fun h11 hof => ?_, fun h10 => ?_⟩
    · simp [h11, hof, scalar] at hok
      exact hok.1
    · simp [h10, scalar] at hok
      exact hok
  by_cases h11 : f.kind = 11
  · rw [canonField_list _ _ _ _ h11]
    split
    · exact Fit.num _ _
    · refine Fit.list _ (by rw [List.length_map, List.length_take]; omega) (fun x hx => ?_)
      simp only [List.mem_map] at hx
      obtain ⟨y, hy, rfl⟩ := hx
      have hky := hk.l y (List.mem_of_mem_take hy)
      exact fit_canonVal _ _ _ _ hky (fun h => hpart (hsub.1 h11 h) y hky)
  · by_cases hns : f.kind = 10 ∧ 0 ≤ f.null
    · rw [canonField_struct _ _ _ _ hns.1 hns.2]
      split
      · exact Fit.num _ _
      · exact hpart (hsub.2 hns.1) t hk
    · rw [canonField_val _ _ _ _ h11 hns]
      exact fit_canonVal _ _ _ _ hk (fun h => hpart (hsub.2 h) t hk)
mutual
theorem fit_canon (v : Int) (flex : Bool) : ∀ (f : F), okF v flex f = true → ∀ t, KeysOk t → Fit (canon v flex f t)
  | .mk _ _ _ _ _ _ _ sub => fun hok => fit_canon_field v flex _ hok (fun h => fit_canons v flex sub h)
theorem fit_canons (v : Int) (flex : Bool) : ∀ (fs : List F), okFs v flex fs = true → ∀ c ∈ canons v flex fs, ∀ t, KeysOk t → Fit (c t)
  | [] => fun _ c hc => by simp [canons] at hc
  | f :: fs => fun h c hc => by
    simp only [okFs, Bool.and_eq_true, decide_eq_true_eq] at h
    simp only [canons, List.mem_cons] at hc
    rcases hc with rfl | hc
    · exact fit_canon v flex f h.1.1.1
    · exact fit_canons v flex fs h.2 c hc
end
theorem fit_canonPart (v : Int) (flex : Bool) (fs : List F) (hok : okFs v flex fs = true) (hl : fs.length ≤ most) (t : T) (hk : KeysOk t) : Fit (canonPart v flex fs t) :=
  fit_asmC v flex fs _ _ _ t hl (fit_canons v flex fs hok) (fit_dflts v flex fs hok) hk

/-! ## Whatever is read without an error is not longer than what there was -/

theorem uvA_spec : ∀ (k : Nat) (bs : List UInt8) (n : Nat) (r : List UInt8), uvA k bs = some (n, r) → r.length < bs.length ∧ n < 16 * 128 ^ k := by
  intro k
  induction k with
  | zero =>
    intro bs n r h
    cases bs with
    | nil => simp [uvA] at h
    | cons b bs =>
      simp only [uvA] at h
      split at h
      · simp only [Option.some.injEq, Prod.mk.injEq] at h
        obtain ⟨rfl, rfl⟩ := h
        exact ⟨by simp, by omega⟩
      · simp at h
  | succ k ih =>
    intro bs n r h
    cases bs with
    | nil => simp [uvA] at h
    | cons b bs =>
      have hb := b.toNat_lt
      have hp : 0 < 128 ^ k := Nat.pow_pos (by decide)
      simp only [uvA] at h
      rw [Nat.pow_succ]
      split at h
      · simp only [Option.some.injEq, Prod.mk.injEq] at h
        obtain ⟨rfl, rfl⟩ := h
        exact ⟨by simp, by omega⟩
      · simp only [Option.map_eq_some_iff, Prod.mk.injEq] at h
        obtain ⟨⟨m, r'⟩, h1, h2, h3⟩ := h
        simp only at h2 h3
        subst h3
        obtain ⟨i1, i2⟩ := ih bs m r' h1
        exact ⟨by rw [List.length_cons]; omega, by omega⟩
theorem rdV_spec {st : St} {n : Nat} {r : List UInt8} (h : rdV st = (n, some r)) : ∃ bs, st = some bs ∧ r.length < bs.length ∧ n < 4294967296 := by
  cases st with
  | none => simp [rdV] at h
  | some bs =>
    simp only [rdV] at h
    split at h
    · rename_i n' r' hu
      simp only [Prod.mk.injEq, Option.some.injEq] at h
      obtain ⟨rfl, rfl⟩ := h
      have := uvA_spec 4 bs n' r' hu
      exact ⟨bs, rfl, this.1, this.2⟩
    · simp at h
theorem rdN_spec {α : Type} {k : Nat} {g : List UInt8 → α} {z x : α} {st : St} {r : List UInt8} (h : rdN k g z st = (x, some r)) : ∃ bs, st = some bs ∧ r.length + k = bs.length := by
  cases st with
  | none => simp [rdN] at h
  | some bs =>
    simp only [rdN] at h
    split at h
    · simp only [Prod.mk.injEq, Option.some.injEq] at h
      obtain ⟨-, rfl⟩ := h
      exact ⟨bs, rfl, by rw [List.length_drop]; omega⟩
    · simp at h
theorem rdSpan_spec {l : Int} {st : St} {b r : List UInt8} (h : rdSpan l st = (b, some r)) : ∃ bs, st = some bs ∧ b.length + r.length = bs.length := by
  cases st with
  | none => simp [rdSpan] at h
  | some bs =>
    simp only [rdSpan] at h
    split at h
    · simp only [Prod.mk.injEq, Option.some.injEq] at h
      obtain ⟨rfl, rfl⟩ := h
      refine ⟨bs, rfl, ?_⟩
      rw [← List.length_append, List.take_append_drop]
    · simp at h

def Tame {α : Type} (ok : α → Prop) (g : St → α × St) : Prop := ∀ st x r, g st = (x, some r) → ∃ bs, st = some bs ∧ r.length ≤ bs.length ∧ (bs.length ≤ most → ok x)

theorem Tame.bind {α β : Type} {p : St → α × St} {q : α → St → β × St} {ok : α → Prop} {ok2 : β → Prop} (h : Tame ok p) (hq : ∀ x, Tame (fun y => ok x → ok2 y) (q x)) :
    Tame ok2 (fun st => q (p st).1 (p st).2) := by
  intro st y r hy
  obtain ⟨bs1, e1, l1, k1⟩ := hq _ _ _ _ hy
  obtain ⟨bs, e2, l2, k2⟩ := h st (p st).1 bs1 (by rw [← e1])
  exact ⟨bs, e2, by omega, fun hm => k1 (by omega) (k2 hm)⟩
theorem Tame.map {α β : Type} {p : St → α × St} {ok : α → Prop} {ok2 : β → Prop} (f : α → β) (h : Tame ok p) (hf : ∀ x, ok x → ok2 (f x)) : Tame ok2 (fun st => (f (p st).1, (p st).2)) := by
  intro st y r hy
  simp only [Prod.mk.injEq] at hy
  obtain ⟨bs, e, l, k⟩ := h st (p st).1 r (by rw [← hy.2])
  exact ⟨bs, e, l, fun hm => hy.1 ▸ hf _ (k hm)⟩
theorem Tame.pure {α : Type} {ok : α → Prop} (x : α) (hx : ok x) : Tame ok (fun st => (x, st)) := by
  intro st y r hy
  simp only [Prod.mk.injEq] at hy
  obtain ⟨rfl, rfl⟩ := hy
  exact ⟨r, rfl, Nat.le_refl _, fun _ => hx⟩
theorem Tame.mono {α : Type} {ok ok2 : α → Prop} {p : St → α × St} (h : Tame ok p) (hf : ∀ x, ok x → ok2 x) : Tame ok2 p := fun st x r hx =>
  let ⟨bs, e, l, k⟩ := h st x r hx; ⟨bs, e, l, fun hm => hf _ (k hm)⟩

theorem tame_rdN {α : Type} (k : Nat) (g : List UInt8 → α) (z : α) : Tame (fun _ => True) (rdN k g z) := fun _ _ _ h =>
  let ⟨bs, e, l⟩ := rdN_spec h; ⟨bs, e, by omega, fun _ => trivial⟩
theorem tame_rdI (k : Nat) : Tame (fun _ => True) (rdI k) := tame_rdN k _ _
theorem tame_rdU (k : Nat) : Tame (fun _ => True) (rdU k) := tame_rdN k _ _
theorem tame_rdV : Tame (fun n => n < 4294967296) rdV := fun _ _ _ h =>
  let ⟨bs, e, l, n⟩ := rdV_spec h; ⟨bs, e, by omega, fun _ => n⟩
theorem tame_rdSpan (l : Int) : Tame (fun b => b.length ≤ most) (rdSpan l) := fun _ _ _ h =>
  let ⟨bs, e, l⟩ := rdSpan_spec h; ⟨bs, e, by omega, fun hm => by omega⟩
theorem tame_count (flex : Bool) (size : Nat) : Tame (fun _ => True) (rdCount flex size) := by
  cases flex with
  | true => exact (Tame.map (ok2 := fun _ => True) (fun u : Nat => (u : Int) - 1) tame_rdV (fun _ _ => trivial))
  | false => exact tame_rdI size
theorem tame_text (flex may : Bool) (size : Nat) : Tame Fit (rdText flex may size) := by
  have h := (tame_count flex size).bind (ok2 := Fit) (q := fun l s => if may ∧ l < 0 then (Tnull, s) else (Ts (rdSpan l s).1, (rdSpan l s).2)) (fun l => by
    by_cases hc : may = true ∧ l < 0
    · simp only [if_pos hc]; exact (Tame.pure Tnull (Fit.num 0 true)).mono (fun _ h _ => h)
    · simp only [if_neg hc]; exact ((tame_rdSpan l).map Ts (fun x hx => Fit.text x hx)).mono (fun _ h _ => h))
  exact h
theorem tame_octets (flex : Bool) : Tame Fit (rdOctets flex) := by
  have h := (tame_count flex 4).bind (ok2 := Fit) (q := fun l s => if l = -1 then (Ts [], s) else (Ts (rdSpan l s).1, (rdSpan l s).2)) (fun l => by
    by_cases hc : l = -1
    · simp only [if_pos hc]; exact (Tame.pure (Ts []) (Fit.text [] (by simp))).mono (fun _ h _ => h)
    · simp only [if_neg hc]; exact ((tame_rdSpan l).map Ts (fun x hx => Fit.text x hx)).mono (fun _ h _ => h))
  exact h
theorem tame_valR (kind : Nat) (pr : St → T × St) (may flex : Bool) (hp : kind = 10 → Tame Fit pr) : Tame Fit (valR kind pr may flex) := by
  by_cases h0 : kind = 0
  · have e : valR kind pr may flex = fun st => ((fun n : Nat => Tn (if n = 0 then 0 else 1)) (rdU 1 st).1, (rdU 1 st).2) := by funext st; unfold valR; rw [if_pos h0]
    rw [e]; exact (tame_rdU 1).map (fun n : Nat => Tn (if n = 0 then 0 else 1)) (fun x _ => Fit.num _ _)
  by_cases h5 : kind = 5
  · have e : valR kind pr may flex = fun st => ((fun n : Nat => Tn n) (rdU 2 st).1, (rdU 2 st).2) := by funext st; unfold valR; rw [if_neg h0, if_pos h5]
    rw [e]; exact (tame_rdU 2).map (fun n : Nat => Tn n) (fun x _ => Fit.num _ _)
  by_cases h7 : kind = 7
  · have e : valR kind pr may flex = fun st => ((fun b => Ts (uuid b)) (rdSpan 16 st).1, (rdSpan 16 st).2) := by funext st; unfold valR; rw [if_neg h0, if_neg h5, if_pos h7]
    rw [e]; exact (tame_rdSpan 16).map (fun b => Ts (uuid b)) (fun x _ => Fit.text _ (by rw [uuid_length]; decide))
  by_cases h8 : kind = 8
  · have e : valR kind pr may flex = rdText flex may 2 := by funext st; unfold valR; rw [if_neg h0, if_neg h5, if_neg h7, if_pos h8]
    rw [e]; exact tame_text _ _ _
  by_cases h9 : kind = 9
  · have e : valR kind pr may flex = if may then rdText flex true 4 else rdOctets flex := by funext st; unfold valR; rw [if_neg h0, if_neg h5, if_neg h7, if_neg h8, if_pos h9]; split <;> rfl
    rw [e]; split
    · exact tame_text _ _ _
    · exact tame_octets _
  by_cases h10 : kind = 10
  · have e : valR kind pr may flex = pr := by funext st; unfold valR; rw [if_neg h0, if_neg h5, if_neg h7, if_neg h8, if_neg h9, if_pos h10]
    rw [e]; exact hp h10
  · have e : valR kind pr may flex = fun st => (Tn (rdI (width kind) st).1, (rdI (width kind) st).2) := by funext st; unfold valR; rw [if_neg h0, if_neg h5, if_neg h7, if_neg h8, if_neg h9, if_neg h10]
    rw [e]; exact (tame_rdI _).map Tn (fun x _ => Fit.num _ _)

theorem tame_many (g : St → T × St) (hg : Tame Fit g) : ∀ n, Tame (fun l => (∀ x ∈ l, Fit x) ∧ l.length = n) (rdMany g n) := by
  intro n
  induction n with
  | zero => exact Tame.pure [] ⟨fun x hx => absurd hx (by simp), rfl⟩
  | succ n ih =>
    have h := hg.bind (ok2 := fun l => (∀ x ∈ l, Fit x) ∧ l.length = n + 1) (q := fun t st => (t :: (rdMany g n st).1, (rdMany g n st).2)) (fun t =>
      ih.map (fun ts => t :: ts) (fun ts hts ht => ⟨fun x hx => by
        simp only [List.mem_cons] at hx
        rcases hx with rfl | hx
        · exact ht
        · exact hts.1 x hx, by simp [hts.2]⟩))
    exact h
theorem tame_len0 (flex : Bool) : Tame (fun _ => True) (rdLen0 flex) := by
  cases flex with
  | true =>
    have h := Tame.map (ok2 := fun _ => True) (fun u : Nat => wrap32 (wrap32 u - 1)) tame_rdV (fun _ _ => trivial)
    have e : rdLen0 true = fun st => ((fun u : Nat => wrap32 (wrap32 u - 1)) (rdV st).1, (rdV st).2) := by funext st; simp only [rdLen0, if_true]
    rw [e]; exact h
  | false =>
    have e : rdLen0 false = rdI 4 := by funext st; simp only [rdLen0, Bool.false_eq_true, if_false]
    rw [e]; exact tame_rdI 4
theorem tame_listR (flex may : Bool) (g : St → T × St) (hg : Tame Fit g) : Tame Fit (fun st => listR may g (rdLen flex st)) := by
  have h := (tame_len0 flex).bind (ok2 := Fit) (q := fun r s => listR may g (chkLen r s)) (fun r => by
    intro st x r' hx
    cases st with
    | none => simp [listR, chkLen] at hx
    | some bs =>
      by_cases hc : (bs.length : Int) < r
      · simp [listR, chkLen, hc] at hx
      · simp only [listR, chkLen, if_neg hc, Option.isNone_some, Bool.false_eq_true, if_false] at hx
        by_cases hm : may = true ∧ r < 0
        · rw [if_pos hm] at hx
          simp only [Prod.mk.injEq, Option.some.injEq] at hx
          obtain ⟨rfl, rfl⟩ := hx
          exact ⟨bs, rfl, Nat.le_refl _, fun _ _ => Fit.num 0 true⟩
        · rw [if_neg hm] at hx
          simp only [Prod.mk.injEq] at hx
          obtain ⟨rfl, hx⟩ := hx
          obtain ⟨bs', e, l, k⟩ := tame_many g hg r.toNat (some bs) (rdMany g r.toNat (some bs)).1 r' (by rw [← hx])
          simp only [Option.some.injEq] at e
          subst e
          refine ⟨bs, rfl, l, fun hm _ => Fit.list _ ?_ (k hm).1⟩
          rw [(k hm).2]
          omega)
  exact h

theorem tame_plainR (v : Int) : ∀ (fs : List F) (gs : List (St → T × St)) (ds : List T), (∀ g ∈ gs, Tame Fit g) → (∀ d ∈ ds, Fit d) → Tame (fun l => (∀ x ∈ l, Fit x) ∧ l.length ≤ fs.length) (plainR v fs gs ds) := by
  intro fs
  induction fs with
  | nil =>
    intro gs ds _ _
    have e : plainR v [] gs ds = fun st => ([], st) := by funext st; simp only [plainR]
    rw [e]; exact Tame.pure [] ⟨fun x hx => absurd hx (by simp), by simp⟩
  | cons f fs ih =>
    intro gs ds hg hd
    cases gs with
    | nil =>
      have e : plainR v (f :: fs) [] ds = fun st => ([], st) := by funext st; simp only [plainR]
      rw [e]; exact Tame.pure [] ⟨fun x hx => absurd hx (by simp), by simp⟩
    | cons g gs =>
      have ih' := ih gs ds.tail (fun g' h => hg g' (List.mem_cons_of_mem _ h)) (fun d h => hd d (List.mem_of_mem_tail h))
      have h1 : Tame Fit (fun st => if f.tag < 0 ∧ f.has v = true then g st else (ds.headD T.zero, st)) := by
        by_cases hc : f.tag < 0 ∧ f.has v = true
        · simp only [if_pos hc]; exact hg g (by simp)
        · simp only [if_neg hc]; exact Tame.pure _ (Fit.head hd)
      have h := h1.bind (ok2 := fun l => (∀ x ∈ l, Fit x) ∧ l.length ≤ fs.length + 1) (q := fun t st => (t :: (plainR v fs gs ds.tail st).1, (plainR v fs gs ds.tail st).2)) (fun t =>
        ih'.map (fun ts => t :: ts) (fun ts hts ht => ⟨fun x hx => by
          simp only [List.mem_cons] at hx
          rcases hx with rfl | hx
          · exact ht
          · exact hts.1 x hx, by simp [hts.2]⟩))
      have e : plainR v (f :: fs) (g :: gs) ds = fun st => ((if f.tag < 0 ∧ f.has v = true then g st else (ds.headD T.zero, st)).1 :: (plainR v fs gs ds.tail (if f.tag < 0 ∧ f.has v = true then g st else (ds.headD T.zero, st)).2).1,
          (plainR v fs gs ds.tail (if f.tag < 0 ∧ f.has v = true then g st else (ds.headD T.zero, st)).2).2) := by funext st; simp only [plainR]
      rw [e]; exact h

theorem setTag_mem (k : Nat) (v : List UInt8) (l : List (Nat × List UInt8)) : (∀ x ∈ setTag k v l, x = (k, v) ∨ x ∈ l) ∧ (setTag k v l).length ≤ l.length + 1 := by
  induction l with
  | nil => exact ⟨fun x hx => by simp [setTag] at hx; exact .inl hx, by simp [setTag]⟩
  | cons a l ih =>
    obtain ⟨j, w⟩ := a
    simp only [setTag]
    split
    · refine ⟨fun x hx => ?_, by simp only [List.length_cons]; omega⟩
      simp only [List.mem_cons] at hx ⊢
      rcases hx with rfl | hx
      · exact .inr (.inl rfl)
      · rcases ih.1 x hx with h | h
        · exact .inl h
        · exact .inr (.inr h)
    · split
      · refine ⟨fun x hx => ?_, by simp only [List.length_cons]; omega⟩
        simp only [List.mem_cons] at hx ⊢
        rcases hx with rfl | hx
        · exact .inl rfl
        · exact .inr (.inr hx)
      · refine ⟨fun x hx => ?_, by simp only [List.length_cons]; omega⟩
        simp only [List.mem_cons] at hx ⊢
        exact hx

theorem findTag_mem (key : Nat) : ∀ (fs : List F) (gs : List (St → T × St)) i g, findTag key fs gs = some (i, g) → g ∈ gs := by
  intro fs
  induction fs with
  | nil => intro gs i g h; simp [findTag] at h
  | cons f fs ih =>
    intro gs i g h
    cases gs with
    | nil => simp [findTag] at h
    | cons a gs =>
      simp only [findTag] at h
      split at h
      · simp only [Option.some.injEq, Prod.mk.injEq] at h
        rw [← h.2]; simp
      · simp only [Option.map_eq_some_iff, Prod.mk.injEq] at h
        obtain ⟨⟨j, g'⟩, h1, h2, h3⟩ := h
        simp only at h3
        subst h3
        exact List.mem_cons_of_mem _ (ih gs j g' h1)

theorem tame_tagR (fs : List F) (gs : List (St → T × St)) (hg : ∀ g ∈ gs, Tame Fit g) (ts : List T) (u : List (Nat × List UInt8)) (st : St) (ts' : List T) (u' : List (Nat × List UInt8)) (r : List UInt8)
    (h : tagR fs gs (ts, u, st) = (ts', u', some r)) : ∃ bs, st = some bs ∧ r.length < bs.length ∧ ts'.length = ts.length ∧ u'.length ≤ u.length + 1 ∧
      (bs.length ≤ most → (∀ x ∈ ts, Fit x) → (∀ x ∈ u, x.1 < 4294967296 ∧ x.2.length ≤ most) → (∀ x ∈ ts', Fit x) ∧ (∀ x ∈ u', x.1 < 4294967296 ∧ x.2.length ≤ most)) := by
  simp only [tagR] at h
  generalize h1 : rdV st = p1 at h
  obtain ⟨key, st1⟩ := p1
  generalize h2 : rdV st1 = p2 at h
  obtain ⟨size, st2⟩ := p2
  generalize h3 : rdSpan (size : Int) st2 = p3 at h
  obtain ⟨b, st3⟩ := p3
  simp only at h
  have fin : ∀ r3, st3 = some r3 → ∃ bs, st = some bs ∧ r3.length < bs.length ∧ key < 4294967296 ∧ b.length ≤ bs.length := by
    rintro r3 rfl
    obtain ⟨b2, rfl, l3⟩ := rdSpan_spec h3
    obtain ⟨b1, rfl, l2, -⟩ := rdV_spec h2
    obtain ⟨b0, rfl, l1, k1⟩ := rdV_spec h1
    exact ⟨b0, rfl, by omega, k1, by omega⟩
  split at h
  · rename_i i g hf
    simp only [Prod.mk.injEq] at h
    obtain ⟨rfl, rfl, h⟩ := h
    cases hgs : (g (some b)).2 with
    | none => rw [hgs] at h; simp at h
    | some gr =>
      rw [hgs] at h
      simp only [Option.isNone_some, Bool.false_eq_true, if_false] at h
      obtain ⟨bs, rfl, l, k, lb⟩ := fin r h
      refine ⟨bs, rfl, l, by simp, by omega, fun hm ht hu => ⟨fun x hx => ?_, hu⟩⟩
      rcases List.mem_or_eq_of_mem_set hx with hx | rfl
      · exact ht x hx
      · obtain ⟨b', e, l', k'⟩ := hg g (findTag_mem _ _ _ _ _ hf) (some b) (g (some b)).1 gr (by rw [← hgs])
        simp only [Option.some.injEq] at e
        subst e
        exact k' (by omega)
  · simp only [Prod.mk.injEq] at h
    obtain ⟨rfl, rfl, h⟩ := h
    obtain ⟨bs, rfl, l, k, lb⟩ := fin r h
    obtain ⟨m1, m2⟩ := setTag_mem key b u
    refine ⟨bs, rfl, l, rfl, m2, fun hm ht hu => ⟨ht, fun x hx => ?_⟩⟩
    rcases m1 x hx with rfl | hx
    · exact ⟨k, by show b.length ≤ most; omega⟩
    · exact hu x hx
theorem tame_tagsR (fs : List F) (gs : List (St → T × St)) (hg : ∀ g ∈ gs, Tame Fit g) : ∀ (n : Nat) (ts : List T) (u : List (Nat × List UInt8)) (st : St) (ts' : List T) (u' : List (Nat × List UInt8)) (r : List UInt8),
    tagsR fs gs n (ts, u, st) = (ts', u', some r) → ∃ bs, st = some bs ∧ r.length ≤ bs.length ∧ ts'.length = ts.length ∧ u'.length + r.length ≤ u.length + bs.length ∧
      (bs.length ≤ most → (∀ x ∈ ts, Fit x) → (∀ x ∈ u, x.1 < 4294967296 ∧ x.2.length ≤ most) → (∀ x ∈ ts', Fit x) ∧ (∀ x ∈ u', x.1 < 4294967296 ∧ x.2.length ≤ most)) := by
  intro n
  induction n with
  | zero =>
    intro ts u st ts' u' r h
    simp only [tagsR, Prod.mk.injEq] at h
    obtain ⟨rfl, rfl, rfl⟩ := h
    exact ⟨r, rfl, Nat.le_refl _, rfl, Nat.le_refl _, fun _ a b => ⟨a, b⟩⟩
  | succ n ih =>
    intro ts u st ts' u' r h
    simp only [tagsR] at h
    generalize hx : tagR fs gs (ts, u, st) = x at h
    obtain ⟨ts1, u1, st1⟩ := x
    obtain ⟨b1, rfl, l1, e1, c1, k1⟩ := ih ts1 u1 st1 ts' u' r h
    obtain ⟨bs, rfl, l2, e2, c2, k2⟩ := tame_tagR fs gs hg ts u st ts1 u1 b1 hx
    refine ⟨bs, rfl, by omega, by omega, by omega, fun hm ht hu => ?_⟩
    obtain ⟨q1, q2⟩ := k2 hm ht hu
    exact k1 (by omega) q1 q2

theorem tame_asmR (v : Int) (flex : Bool) (fs : List F) (gs : List (St → T × St)) (ds : List T) (hl : fs.length ≤ most) (hg : ∀ g ∈ gs, Tame Fit g) (hd : ∀ d ∈ ds, Fit d) : Tame Fit (asmR v flex fs gs ds) := by
  intro st x r hx
  have hp := tame_plainR v fs gs ds hg hd
  cases flex with
  | false =>
    simp only [asmR, Bool.false_eq_true, if_false, Prod.mk.injEq] at hx
    obtain ⟨rfl, hx⟩ := hx
    obtain ⟨bs, rfl, l, k⟩ := hp st (plainR v fs gs ds st).1 r (by rw [← hx])
    exact ⟨bs, rfl, l, fun hm => .mk _ _ _ _ _ (by simp) (by simp) (fun _ h => absurd h (by simp)) (by have := (k hm).2; omega) (k hm).1⟩
  | true =>
    simp only [asmR, if_true, Prod.mk.injEq] at hx
    obtain ⟨rfl, hx⟩ := hx
    generalize hq : tagsR fs gs (rdV (plainR v fs gs ds st).2).1 ((plainR v fs gs ds st).1, [], (rdV (plainR v fs gs ds st).2).2) = q at hx
    obtain ⟨ts', u', s'⟩ := q
    simp only at hx
    subst hx
    obtain ⟨b1, e1, l1, c1, c2, k1⟩ := tame_tagsR fs gs hg _ _ _ _ _ _ _ hq
    obtain ⟨b2, e2, l2, -⟩ := rdV_spec (st := (plainR v fs gs ds st).2) (n := (rdV (plainR v fs gs ds st).2).1) (r := b1) (by rw [← e1])
    obtain ⟨bs, rfl, l, k⟩ := hp st (plainR v fs gs ds st).1 b2 (by rw [← e2])
    refine ⟨bs, rfl, by omega, fun hm => ?_⟩
    obtain ⟨k3, k4⟩ := k hm
    obtain ⟨q1, q2⟩ := k1 (by omega) k3 (fun _ h => absurd h (by simp))
    simp only [List.length_nil, Nat.zero_add] at c2
    exact Fit.mk 0 [] false ts' u' (by simp) (by omega) q2 (by omega) q1

theorem tame_field (v : Int) (flex : Bool) (f : F) (hok : okF v flex f = true) (hp : okFs v flex f.sub = true → ∀ g ∈ rds v flex f.sub, Tame Fit g) : Tame Fit (rd v flex f) := by
  rw [okF_eq] at hok
  simp only [Bool.and_eq_true, decide_eq_true_eq] at hok
  obtain ⟨⟨⟨hok, hlen⟩, hmay⟩, -⟩ := hok
  rw [rd_eq]
  have hpart : okFs v flex f.sub = true → Tame Fit (asmR v flex f.sub (rds v flex f.sub) (dfltOf f.sub)) := fun h => tame_asmR v flex _ _ _ hlen (hp h) (fit_dflts v flex f.sub h)
  have hsub : (f.kind = 11 → f.of = 10 → okFs v flex f.sub = true) ∧ (f.kind = 10 → okFs v flex f.sub = true) := by
    refine ⟨fun h11 hof => ?_, fun h10 => ?_⟩
    · simp [h11, hof, scalar] at hok
      exact hok.1
    · simp [h10, scalar] at hok
      exact hok
  by_cases h11 : f.kind = 11
  · rw [fieldR_list _ _ _ _ h11]
    exact tame_listR _ _ _ (tame_valR _ _ _ _ (fun h => hpart (hsub.1 h11 h)))
  · by_cases hns : f.kind = 10 ∧ 0 ≤ f.null
    · rw [fieldR_struct _ _ _ _ hns.1 hns.2]
      have h := (tame_rdI 1).bind (ok2 := Fit) (q := fun p s => if p ≠ -1 ∧ s.isSome then asmR v flex f.sub (rds v flex f.sub) (dfltOf f.sub) s else (Tnull, s)) (fun p => by
        intro st x r hx
        simp only at hx
        by_cases hc : p ≠ -1 ∧ st.isSome = true
        · rw [if_pos hc] at hx
          obtain ⟨bs, e, l, k⟩ := hpart (hsub.2 hns.1) st x r hx
          exact ⟨bs, e, l, fun hm _ => k hm⟩
        · rw [if_neg hc] at hx
          simp only [Prod.mk.injEq] at hx
          obtain ⟨rfl, rfl⟩ := hx
          exact ⟨r, rfl, Nat.le_refl _, fun _ _ => Fit.num 0 true⟩)
      exact h
    · rw [fieldR_val _ _ _ _ h11 hns]
      exact tame_valR _ _ _ _ (fun h => hpart (hsub.2 h))
mutual
theorem tame_rd (v : Int) (flex : Bool) : ∀ (f : F), okF v flex f = true → Tame Fit (rd v flex f)
  | .mk _ _ _ _ _ _ _ sub => fun hok => tame_field v flex _ hok (fun h => tame_rds v flex sub h)
theorem tame_rds (v : Int) (flex : Bool) : ∀ (fs : List F), okFs v flex fs = true → ∀ g ∈ rds v flex fs, Tame Fit g
  | [] => fun _ g hg => by simp [rds] at hg
  | f :: fs => fun h g hg => by
    simp only [okFs, Bool.and_eq_true, decide_eq_true_eq] at h
    simp only [rds, List.mem_cons] at hg
    rcases hg with rfl | hg
    · exact tame_rd v flex f h.1.1.1
    · exact tame_rds v flex fs h.2 g hg
end
theorem tame_part (v : Int) (flex : Bool) (fs : List F) (hok : okFs v flex fs = true) (hl : fs.length ≤ most) : Tame Fit (rdPart v flex fs) :=
  tame_asmR v flex fs _ _ hl (tame_rds v flex fs hok) (fit_dflts v flex fs hok)

/-! ## What was read is not longer when it is written -/

mutual
def noTag : F → Bool
  | .mk _ _ _ _ tag _ _ sub => decide (tag < 0) && noTags sub
def noTags : List F → Bool
  | [] => true
  | f :: fs => noTag f && noTags fs
end
theorem noTag_eq (f : F) : noTag f = (decide (f.tag < 0) && noTags f.sub) := by cases f; rw [noTag]
theorem noTags_mem : ∀ (fs : List F), noTags fs = true → ∀ f ∈ fs, noTag f = true := by
  intro fs
  induction fs with
  | nil => intro _ f hf; simp at hf
  | cons a fs ih =>
    intro h f hf
    simp only [noTags, Bool.and_eq_true] at h
    simp only [List.mem_cons] at hf
    rcases hf with rfl | hf
    · exact h.1
    · exact ih h.2 f hf
theorem noTags_known (fs : List F) (h : noTags fs = true) : known fs = 0 := by
  induction fs with
  | nil => rfl
  | cons f fs ih =>
    simp only [noTags, Bool.and_eq_true, noTag_eq, decide_eq_true_eq] at h
    simp only [known, ih h.2]
    rw [if_neg (by omega)]
    rfl

theorem uvF_mono : ∀ (k a b : Nat), a ≤ b → (uvF k a).length ≤ (uvF k b).length := by
  intro k
  induction k with
  | zero => intro a b _; simp [uvF]
  | succ k ih =>
    intro a b h
    simp only [uvF]
    by_cases ha : a < 128
    · rw [if_pos ha]
      split <;> simp
    · rw [if_neg ha, if_neg (by omega)]
      simp only [List.length_cons]
      have := ih (a / 128) (b / 128) (Nat.div_le_div_right h)
      omega
theorem uvA_long : ∀ (k fuel : Nat) (bs : List UInt8) (n : Nat) (r : List UInt8), k < fuel → uvA k bs = some (n, r) → (uvF fuel n).length + r.length ≤ bs.length := by
  intro k
  induction k with
  | zero =>
    intro fuel bs n r hf h
    obtain ⟨m, rfl⟩ : ∃ m, fuel = m + 1 := ⟨fuel - 1, by omega⟩
    cases bs with
    | nil => simp [uvA] at h
    | cons b bs =>
      simp only [uvA] at h
      split at h
      · simp only [Option.some.injEq, Prod.mk.injEq] at h
        obtain ⟨rfl, rfl⟩ := h
        simp only [uvF, if_pos (show b.toNat < 128 by omega), List.length_cons, List.length_nil]
        omega
      · simp at h
  | succ k ih =>
    intro fuel bs n r hf h
    obtain ⟨m, rfl⟩ : ∃ m, fuel = m + 1 := ⟨fuel - 1, by omega⟩
    cases bs with
    | nil => simp [uvA] at h
    | cons b bs =>
      simp only [uvA] at h
      split at h
      · rename_i hb
        simp only [Option.some.injEq, Prod.mk.injEq] at h
        obtain ⟨rfl, rfl⟩ := h
        simp only [uvF, if_pos hb, List.length_cons, List.length_nil]
        omega
      · simp only [Option.map_eq_some_iff, Prod.mk.injEq] at h
        obtain ⟨⟨x, r'⟩, h1, h2, h3⟩ := h
        simp only at h2 h3
        subst h3
        have hi := ih m bs x r' (by omega) h1
        have hb := b.toNat_lt
        simp only [uvF]
        by_cases hn : n < 128
        · rw [if_pos hn]
          obtain ⟨m', rfl⟩ : ∃ m', m = m' + 1 := ⟨m - 1, by omega⟩
          have := uvF_pos m' x
          simp only [List.length_cons, List.length_nil]
          omega
        · rw [if_neg hn]
          have : uvF m (n / 128) = uvF m x := by congr 1; omega
          rw [this]
          simp only [List.length_cons]
          omega
theorem rdV_long {st : St} {n : Nat} {r : List UInt8} (h : rdV st = (n, some r)) : ∃ bs, st = some bs ∧ (uv n).length + r.length ≤ bs.length := by
  cases st with
  | none => simp [rdV] at h
  | some bs =>
    simp only [rdV] at h
    split at h
    · rename_i n' r' hu
      simp only [Prod.mk.injEq, Option.some.injEq] at h
      obtain ⟨rfl, rfl⟩ := h
      exact ⟨bs, rfl, uvA_long 4 10 bs n' r' (by omega) hu⟩
    · simp at h

/-- What is read, written again, is no longer than what it was read of. -/
def Short {α : Type} (w : α → List UInt8) (g : St → α × St) : Prop := ∀ st x r, g st = (x, some r) → ∃ bs, st = some bs ∧ (bs.length ≤ most → (w x).length + r.length ≤ bs.length)

theorem short_count (flex : Bool) (size : Nat) (st : St) (l : Int) (r : List UInt8) (h : rdCount flex size st = (l, some r)) :
    ∃ bs, st = some bs ∧ (0 ≤ l → ∀ n : Nat, n ≤ l.toNat → (counted flex false n size).length + r.length ≤ bs.length) ∧ (∀ n, (counted flex true n size).length + r.length ≤ bs.length) ∧
      ((counted flex false 0 size).length + r.length ≤ bs.length) := by
  cases flex with
  | true =>
    simp only [rdCount, if_true, Prod.mk.injEq] at h
    obtain ⟨rfl, h⟩ := h
    obtain ⟨bs, e, hl⟩ := rdV_long (st := st) (n := (rdV st).1) (r := r) (by rw [← h])
    have hp : 0 < (uv (rdV st).1).length := uvF_pos 9 _
    have h1 : (uv (0 + 1)).length = 1 := rfl
    refine ⟨bs, e, fun h0 n hn => ?_, fun n => ?_, ?_⟩
    · have := uvF_mono 10 (n + 1) (rdV st).1 (by omega)
      have h' : (uv (n + 1)).length ≤ (uv (rdV st).1).length := this
      show (uv (n + 1)).length + _ ≤ _
      omega
    · show 1 + _ ≤ _
      omega
    · show (uv (0 + 1)).length + _ ≤ _
      omega
  | false =>
    have h' : rdI size st = (l, some r) := by simpa only [rdCount, Bool.false_eq_true, if_false] using h
    obtain ⟨bs, e, hl⟩ := rdN_spec h'
    refine ⟨bs, e, fun h0 n hn => ?_, fun n => ?_, ?_⟩
    · simp only [counted, Bool.false_eq_true, if_false, fixed_length]; omega
    · simp only [counted, Bool.false_eq_true, if_false, if_true, fixed_length]; omega
    · simp only [counted, Bool.false_eq_true, if_false, fixed_length]; omega

theorem take_len (b : List UInt8) : (b.take most).length ≤ b.length := by rw [List.length_take]; omega

/-- A text, octets: as they are written when they are null, or not. -/
def textW (flex : Bool) (size : Nat) (null : Bool) (t : T) : List UInt8 := if null then counted flex true 0 size else counted flex false (t.s.take most).length size ++ t.s.take most
theorem short_text (flex may : Bool) (size : Nat) (st : St) (t : T) (r : List UInt8) (h : rdText flex may size st = (t, some r)) :
    ∃ bs, st = some bs ∧ (textW flex size (t.null && may) t).length + r.length ≤ bs.length := by
  simp only [rdText] at h
  generalize hc : rdCount flex size st = p at h
  obtain ⟨l, s⟩ := p
  simp only at h
  split at h
  · rename_i hm
    simp only [Prod.mk.injEq] at h
    obtain ⟨rfl, rfl⟩ := h
    obtain ⟨bs, e, -, k2, -⟩ := short_count flex size st l r hc
    refine ⟨bs, e, ?_⟩
    simp only [textW, hm.1, Tnull, Bool.and_self, if_true]
    exact k2 0
  · simp only [Prod.mk.injEq] at h
    obtain ⟨rfl, h⟩ := h
    obtain ⟨b1, rfl, hl⟩ := rdSpan_spec (l := l) (st := s) (b := (rdSpan l s).1) (r := r) (by rw [← h])
    obtain ⟨bs, e, k1, -, k3⟩ := short_count flex size st l b1 hc
    refine ⟨bs, e, ?_⟩
    have h0 : 0 ≤ l := by
      simp only [rdSpan] at h
      split at h
      · omega
      · simp at h
    have hb : (rdSpan l (some b1)).1.length = l.toNat := by
      simp only [rdSpan] at h ⊢
      split at h
      · rename_i hc; rw [if_pos hc]; simp only [List.length_take]; omega
      · simp at h
    have ht := take_len (rdSpan l (some b1)).1
    have := k1 h0 ((rdSpan l (some b1)).1.take most).length (by omega)
    simp only [textW, Ts, Bool.false_and, Bool.false_eq_true, if_false, List.length_append]
    omega
theorem short_octets (flex : Bool) (st : St) (t : T) (r : List UInt8) (h : rdOctets flex st = (t, some r)) :
    ∃ bs, st = some bs ∧ (textW flex 4 false t).length + r.length ≤ bs.length := by
  simp only [rdOctets] at h
  generalize hc : rdCount flex 4 st = p at h
  obtain ⟨l, s⟩ := p
  simp only at h
  split at h
  · simp only [Prod.mk.injEq] at h
    obtain ⟨rfl, rfl⟩ := h
    obtain ⟨bs, e, -, -, k3⟩ := short_count flex 4 st l r hc
    exact ⟨bs, e, by simpa [textW, Ts] using k3⟩
  · have ht : rdText flex false 4 st = (t, some r) := by
      simp only [rdText, hc]
      rw [if_neg (by simp)]
      exact h
    obtain ⟨bs, e, k⟩ := short_text flex false 4 st t r ht
    exact ⟨bs, e, by simpa using k⟩

theorem short_valR (kind : Nat) (pr : St → T × St) (pw : T → List UInt8) (may flex : Bool) (hp : kind = 10 → Short pw pr) (hs : scalar kind = true ∨ kind = 10) (st : St) (t : T) (r : List UInt8)
    (h : valR kind pr may flex st = (t, some r)) : ∃ bs, st = some bs ∧ (bs.length ≤ most → (valW kind pw (t.null && may) flex t).length + r.length ≤ bs.length) := by
  have hc : kind = 0 ∨ kind = 1 ∨ kind = 2 ∨ kind = 3 ∨ kind = 4 ∨ kind = 5 ∨ kind = 7 ∨ kind = 8 ∨ kind = 9 ∨ kind = 10 := by
    rcases hs with hs | hs
    · simp only [scalar, Bool.or_eq_true, decide_eq_true_eq] at hs; omega
    · omega
  have hI : ∀ k, (rdI k st).2 = some r → ∃ bs, st = some bs ∧ r.length + k = bs.length := fun k hk =>
    rdN_spec (g := fun l => sgn k (beNat l)) (z := 0) (x := (rdI k st).1) (show rdI k st = _ from Prod.ext rfl hk)
  have hU : ∀ k, (rdU k st).2 = some r → ∃ bs, st = some bs ∧ r.length + k = bs.length := fun k hk =>
    rdN_spec (g := beNat) (z := 0) (x := (rdU k st).1) (show rdU k st = _ from Prod.ext rfl hk)
  rcases hc with rfl | rfl | rfl | rfl | rfl | rfl | rfl | rfl | rfl | rfl
  · simp only [valR, if_true, Prod.mk.injEq] at h
    obtain ⟨bs, e, l⟩ := hU 1 h.2
    exact ⟨bs, e, fun _ => by simp only [valW, if_true, List.length_cons, List.length_nil]; omega⟩
  · simp [valR, width] at h
    obtain ⟨bs, e, l⟩ := hI 1 h.2
    exact ⟨bs, e, fun _ => by simp [valW, width, fixed_length]; omega⟩
  · simp [valR, width] at h
    obtain ⟨bs, e, l⟩ := hI 2 h.2
    exact ⟨bs, e, fun _ => by simp [valW, width, fixed_length]; omega⟩
  · simp [valR, width] at h
    obtain ⟨bs, e, l⟩ := hI 4 h.2
    exact ⟨bs, e, fun _ => by simp [valW, width, fixed_length]; omega⟩
  · simp [valR, width] at h
    obtain ⟨bs, e, l⟩ := hI 8 h.2
    exact ⟨bs, e, fun _ => by simp [valW, width, fixed_length]; omega⟩
  · simp [valR] at h
    obtain ⟨bs, e, l⟩ := hU 2 h.2
    exact ⟨bs, e, fun _ => by simp [valW, width, fixed_length]; omega⟩
  · simp [valR] at h
    obtain ⟨bs, e, l⟩ := rdSpan_spec (l := 16) (st := st) (b := (rdSpan 16 st).1) (r := r) (by rw [← h.2])
    have hb : (rdSpan 16 st).1.length = 16 := by
      have h2 := h.2
      subst e
      simp only [rdSpan] at h2 ⊢
      split at h2
      · rename_i hc; rw [if_pos hc]; simp only [List.length_take]; omega
      · simp at h2
    refine ⟨bs, e, fun _ => ?_⟩
    simp only [valW, show ¬ (7 : Nat) = 0 by decide, if_false, if_true, uuid_length]
    omega
  · simp only [valR, show ¬ (8 : Nat) = 0 by decide, show ¬ (8 : Nat) = 5 by decide, show ¬ (8 : Nat) = 7 by decide, if_false, if_true] at h
    obtain ⟨bs, e, k⟩ := short_text flex may 2 st t r h
    refine ⟨bs, e, fun _ => ?_⟩
    simp only [valW, show ¬ (8 : Nat) = 0 by decide, show ¬ (8 : Nat) = 7 by decide, if_false, if_true]
    exact k
  · simp only [valR, show ¬ (9 : Nat) = 0 by decide, show ¬ (9 : Nat) = 5 by decide, show ¬ (9 : Nat) = 7 by decide, show ¬ (9 : Nat) = 8 by decide, if_false, if_true] at h
    simp only [valW, show ¬ (9 : Nat) = 0 by decide, show ¬ (9 : Nat) = 7 by decide, show ¬ (9 : Nat) = 8 by decide, if_false, if_true]
    cases may with
    | true =>
      obtain ⟨bs, e, k⟩ := short_text flex true 4 st t r h
      exact ⟨bs, e, fun _ => k⟩
    | false =>
      obtain ⟨bs, e, k⟩ := short_octets flex st t r h
      refine ⟨bs, e, fun _ => ?_⟩
      simp only [Bool.and_false]
      exact k
  · simp only [valR, show ¬ (10 : Nat) = 0 by decide, show ¬ (10 : Nat) = 5 by decide, show ¬ (10 : Nat) = 7 by decide, show ¬ (10 : Nat) = 8 by decide, show ¬ (10 : Nat) = 9 by decide, if_false, if_true] at h
    rw [valW_part]
    exact hp rfl st t r h

theorem short_many (g : St → T × St) (w : T → List UInt8) (hg : Short w g) : ∀ n, Short (fun l => l.flatMap w) (rdMany g n) := by
  intro n
  induction n with
  | zero =>
    intro st x r h
    simp only [rdMany, Prod.mk.injEq] at h
    obtain ⟨rfl, rfl⟩ := h
    exact ⟨r, rfl, fun _ => by simp⟩
  | succ n ih =>
    intro st x r h
    simp only [rdMany, Prod.mk.injEq] at h
    obtain ⟨rfl, h⟩ := h
    obtain ⟨b1, e1, l1⟩ := ih (g st).2 (rdMany g n (g st).2).1 r (by rw [← h])
    obtain ⟨bs, e2, l2⟩ := hg st (g st).1 b1 (by rw [← e1])
    refine ⟨bs, e2, fun hm => ?_⟩
    have l2 := l2 hm
    have l1 : (List.flatMap w (rdMany g n (g st).2).1).length + r.length ≤ b1.length := l1 (by omega)
    simp only [List.flatMap_cons, List.length_append]
    omega
theorem many_length (g : St → T × St) : ∀ n st, (rdMany g n st).1.length = n := by
  intro n
  induction n with
  | zero => intro st; rfl
  | succ n ih => intro st; simp only [rdMany, List.length_cons, ih]

theorem flatMap_take_le (w : T → List UInt8) (l : List T) (k : Nat) : ((l.take k).flatMap w).length ≤ (l.flatMap w).length := by
  induction l generalizing k with
  | nil => simp
  | cons a l ih =>
    cases k with
    | zero => simp
    | succ k =>
      have := ih k
      simp only [List.take_succ_cons, List.flatMap_cons, List.length_append]
      omega

theorem short_listR (flex may : Bool) (g : St → T × St) (w : T → List UInt8) (hg : Short w g) (st : St) (t : T) (r : List UInt8) (h : listR may g (rdLen flex st) = (t, some r)) :
    ∃ bs, st = some bs ∧ (bs.length ≤ most → (if t.null && may then counted flex true 0 4 else counted flex false (t.l.take most).length 4 ++ (t.l.take most).flatMap w).length + r.length ≤ bs.length) := by
  simp only [rdLen] at h
  generalize hc : rdLen0 flex st = p at h
  obtain ⟨l, s⟩ := p
  cases s with
  | none => simp [listR, chkLen] at h
  | some b1 =>
    simp only [chkLen] at h
    by_cases hlt : (b1.length : Int) < l
    · rw [if_pos hlt] at h; simp [listR] at h
    · rw [if_neg hlt] at h
      simp only [listR, Option.isNone_some, Bool.false_eq_true, if_false] at h
      -- the count
      have hcnt : ∃ bs, st = some bs ∧ (0 ≤ l → ∀ n : Nat, n ≤ l.toNat → n ≤ most → (counted flex false n 4).length + b1.length ≤ bs.length) ∧ ((counted flex true 0 4).length + b1.length ≤ bs.length) ∧
          ((counted flex false 0 4).length + b1.length ≤ bs.length) := by
        cases flex with
        | true =>
          simp only [rdLen0, if_true, Prod.mk.injEq] at hc
          obtain ⟨hl, hs⟩ := hc
          obtain ⟨bs, e, hlong⟩ := rdV_long (st := st) (n := (rdV st).1) (r := b1) (by rw [← hs])
          obtain ⟨-, -, -, hbd⟩ := rdV_spec (st := st) (n := (rdV st).1) (r := b1) (by rw [← hs])
          have hp : 0 < (uv (rdV st).1).length := uvF_pos 9 _
          refine ⟨bs, e, fun h0 n hn hm => ?_, ?_, ?_⟩
          · by_cases hu : n + 1 ≤ (rdV st).1
            · have := uvF_mono 10 (n + 1) (rdV st).1 hu
              have h' : (uv (n + 1)).length ≤ (uv (rdV st).1).length := this
              show (uv (n + 1)).length + _ ≤ _
              omega
            · exfalso
              unfold wrap32 at hl
              omega
          · show 1 + _ ≤ _
            omega
          · show (uv (0 + 1)).length + _ ≤ _
            have h1 : (uv (0 + 1)).length = 1 := rfl
            omega
        | false =>
          have hc' : rdI 4 st = (l, some b1) := by simpa only [rdLen0, Bool.false_eq_true, if_false] using hc
          obtain ⟨bs, e, hl⟩ := rdN_spec hc'
          refine ⟨bs, e, fun h0 n hn hm => ?_, ?_, ?_⟩
          · simp only [counted, Bool.false_eq_true, if_false, fixed_length]; omega
          · simp only [counted, Bool.false_eq_true, if_false, if_true, fixed_length]; omega
          · simp only [counted, Bool.false_eq_true, if_false, fixed_length]; omega
      obtain ⟨bs, e, k1, k2, k3⟩ := hcnt
      by_cases hm : may = true ∧ l < 0
      · rw [if_pos hm] at h
        simp only [Prod.mk.injEq, Option.some.injEq] at h
        obtain ⟨rfl, rfl⟩ := h
        exact ⟨bs, e, fun _ => by simp only [Tnull, hm.1, Bool.and_self, if_true]; exact k2⟩
      · rw [if_neg hm] at h
        simp only [Prod.mk.injEq] at h
        obtain ⟨rfl, h⟩ := h
        obtain ⟨b2, e2, l2⟩ := short_many g w hg l.toNat (some b1) (rdMany g l.toNat (some b1)).1 r (by rw [← h])
        simp only [Option.some.injEq] at e2
        subst e2
        refine ⟨bs, e, fun hmost => ?_⟩
        have hb1 : b1.length ≤ bs.length := by omega
        have l2 : (List.flatMap w (rdMany g l.toNat (some b1)).1).length + r.length ≤ b1.length := l2 (by omega)
        simp only [Tl, Bool.false_and, Bool.false_eq_true, if_false, List.length_append]
        have hlen := many_length g l.toNat (some b1)
        have hf := flatMap_take_le w (rdMany g l.toNat (some b1)).1 most
        have htl : ((rdMany g l.toNat (some b1)).1.take most).length ≤ l.toNat ∧ ((rdMany g l.toNat (some b1)).1.take most).length ≤ most := by rw [List.length_take, hlen]; omega
        by_cases h0 : 0 ≤ l
        · have := k1 h0 _ htl.1 htl.2
          omega
        · have hz : ((rdMany g l.toNat (some b1)).1.take most).length = 0 := by omega
          rw [hz]
          omega

theorem setTag_sorted (k : Nat) (v : List UInt8) (l : List (Nat × List UInt8)) (h : Sorted l) : Sorted (setTag k v l) := by
  induction l with
  | nil => exact ⟨fun x hx => absurd hx (by simp), trivial⟩
  | cons a l ih =>
    obtain ⟨j, w⟩ := a
    simp only [setTag]
    split
    · rename_i hjk
      refine ⟨fun x hx => ?_, ih h.2⟩
      rcases (setTag_mem k v l).1 x hx with rfl | hx
      · exact hjk
      · exact h.1 x hx
    · split
      · rename_i hjk
        subst hjk
        exact h
      · refine ⟨fun x hx => ?_, h⟩
        simp only [List.mem_cons] at hx
        rcases hx with rfl | hx
        · show k < j; omega
        · have := h.1 x hx; omega
theorem setTag_tagB (k : Nat) (v : List UInt8) (l : List (Nat × List UInt8)) : ((setTag k v l).flatMap tagB).length ≤ (l.flatMap tagB).length + (tagB (k, v)).length := by
  induction l with
  | nil => simp [setTag]
  | cons a l ih =>
    obtain ⟨j, w⟩ := a
    simp only [setTag]
    split
    · simp only [List.flatMap_cons, List.length_append]; omega
    · split
      · simp only [List.flatMap_cons, List.length_append]; omega
      · simp only [List.flatMap_cons, List.length_append]; omega

theorem short_tagsR (fs : List F) (gs : List (St → T × St)) (hn : ∀ key, findTag key fs gs = none) : ∀ (n : Nat) (ts : List T) (u : List (Nat × List UInt8)) (st : St) (ts' : List T) (u' : List (Nat × List UInt8)) (r : List UInt8),
    tagsR fs gs n (ts, u, st) = (ts', u', some r) → ∃ bs, st = some bs ∧ ts' = ts ∧ (Sorted u → Sorted u') ∧ u'.length ≤ u.length + n ∧ (u'.flatMap tagB).length + r.length ≤ (u.flatMap tagB).length + bs.length := by
  intro n
  induction n with
  | zero =>
    intro ts u st ts' u' r h
    simp only [tagsR, Prod.mk.injEq] at h
    obtain ⟨rfl, rfl, rfl⟩ := h
    exact ⟨r, rfl, rfl, id, by omega, Nat.le_refl _⟩
  | succ n ih =>
    intro ts u st ts' u' r h
    simp only [tagsR, tagR, hn] at h
    obtain ⟨b1, e1, rfl, s1, c1, l1⟩ := ih _ _ _ _ _ _ h
    obtain ⟨b2, e2, l2⟩ := rdSpan_spec (l := ((rdV (rdV st).2).1 : Int)) (st := (rdV (rdV st).2).2) (b := (rdSpan ((rdV (rdV st).2).1 : Int) (rdV (rdV st).2).2).1) (r := b1) (by rw [← e1])
    obtain ⟨b3, e3, l3⟩ := rdV_long (st := (rdV st).2) (n := (rdV (rdV st).2).1) (r := b2) (by rw [← e2])
    obtain ⟨b4, e4, l4⟩ := rdV_long (st := st) (n := (rdV st).1) (r := b3) (by rw [← e3])
    have hsz : (rdSpan ((rdV (rdV st).2).1 : Int) (rdV (rdV st).2).2).1.length = (rdV (rdV st).2).1 := by
      rw [e2] at e1 ⊢
      simp only [rdSpan] at e1 ⊢
      split at e1
      · rename_i hc; rw [if_pos hc]; simp only [List.length_take]; omega
      · simp at e1
    obtain ⟨-, m2⟩ := setTag_mem (rdV st).1 (rdSpan ((rdV (rdV st).2).1 : Int) (rdV (rdV st).2).2).1 u
    have m3 := setTag_tagB (rdV st).1 (rdSpan ((rdV (rdV st).2).1 : Int) (rdV (rdV st).2).2).1 u
    refine ⟨b4, e4, rfl, fun hs => s1 (setTag_sorted _ _ _ hs), by omega, ?_⟩
    simp only [tagB, List.length_append, hsz] at m3 l1 ⊢
    omega

theorem short_plainR (v : Int) : ∀ (fs : List F) (gs : List (St → T × St)) (ws : List (T → List UInt8)) (ds : List T) (st : St) (ts : List T) (r : List UInt8), gs.length = ws.length →
    (∀ (i : Nat) f g w, fs[i]? = some f → gs[i]? = some g → ws[i]? = some w → f.has v = true → Short w g) → plainR v fs gs ds st = (ts, some r) → ∃ bs, st = some bs ∧ (bs.length ≤ most → (plainW v fs ws ts).length + r.length ≤ bs.length) := by
  intro fs
  induction fs with
  | nil =>
    intro gs ws ds st ts r _ _ h
    simp only [plainR, Prod.mk.injEq] at h
    obtain ⟨rfl, rfl⟩ := h
    exact ⟨r, rfl, fun _ => by simp [plainW]⟩
  | cons f fs ih =>
    intro gs ws ds st ts r hl hg h
    cases gs with
    | nil =>
      simp only [plainR, Prod.mk.injEq] at h
      obtain ⟨rfl, rfl⟩ := h
      have : ws = [] := List.eq_nil_of_length_eq_zero (by simpa using hl.symm)
      subst this
      exact ⟨r, rfl, fun _ => by simp [plainW]⟩
    | cons g gs =>
      obtain ⟨w, ws, rfl⟩ : ∃ w ws', ws = w :: ws' := by cases ws with | nil => simp at hl | cons w ws => exact ⟨w, ws, rfl⟩
      simp only [plainR, Prod.mk.injEq] at h
      obtain ⟨rfl, h⟩ := h
      obtain ⟨b1, e1, l1⟩ := ih gs ws ds.tail _ (plainR v fs gs ds.tail (if f.tag < 0 ∧ f.has v = true then g st else (ds.headD T.zero, st)).2).1 r (by simpa using hl) (fun i f' g' w' h0 h1 h2 => hg (i + 1) f' g' w' (by simpa using h0) (by simpa using h1) (by simpa using h2)) (Prod.ext rfl h)
      simp only [plainW, List.headD_cons, List.tail_cons, List.length_append]
      by_cases hc : f.tag < 0 ∧ f.has v = true
      · rw [if_pos hc] at e1 l1
        rw [if_pos hc]
        obtain ⟨bs, e, l⟩ := hg 0 f g w rfl rfl rfl hc.2 st (g st).1 b1 (by rw [← e1])
        rw [if_pos hc]
        exact ⟨bs, e, fun hm => by have := l hm; have := l1 (by omega); omega⟩
      · rw [if_neg hc] at e1 l1
        simp only at e1
        subst e1
        rw [if_neg hc]
        exact ⟨b1, rfl, fun hm => by have := l1 hm; simp only [if_neg hc, List.length_nil] at this ⊢; omega⟩

theorem knownW_none (fs : List F) (ws : List (T → List UInt8)) (qs : List (T → Bool)) (ts : List T) (h : known fs = 0) : knownW fs ws qs ts = [] := by
  unfold knownW; rw [h]; rfl

theorem findTag_noTags (key : Nat) : ∀ (fs : List F) (gs : List (St → T × St)), noTags fs = true → findTag key fs gs = none := by
  intro fs
  induction fs with
  | nil => intro gs _; simp [findTag]
  | cons f fs ih =>
    intro gs h
    simp only [noTags, Bool.and_eq_true, noTag_eq, decide_eq_true_eq] at h
    cases gs with
    | nil => simp [findTag]
    | cons g gs =>
      simp only [findTag]
      rw [if_neg (by omega), ih gs h.2]
      rfl

theorem short_asm (v : Int) (flex : Bool) (fs : List F) (gs : List (St → T × St)) (ws : List (T → List UInt8)) (qs : List (T → Bool)) (ds : List T) (hl : gs.length = ws.length) (hn : noTags fs = true)
    (hg : ∀ (i : Nat) f g w, fs[i]? = some f → gs[i]? = some g → ws[i]? = some w → f.has v = true → Short w g) (hm : Tame Fit (asmR v flex fs gs ds)) : Short (asmW v flex fs ws qs) (asmR v flex fs gs ds) := by
  intro st x r hx
  obtain ⟨bs0, e0, -, hmx⟩ := hm st x r hx
  cases flex with
  | false =>
    simp only [asmR, Bool.false_eq_true, if_false, Prod.mk.injEq] at hx
    obtain ⟨rfl, hx⟩ := hx
    obtain ⟨bs, e, l⟩ := short_plainR v fs gs ws ds st (plainR v fs gs ds st).1 r hl hg (Prod.ext rfl hx)
    exact ⟨bs, e, fun hm => by simpa [asmW] using l hm⟩
  | true =>
    simp only [asmR, if_true, Prod.mk.injEq] at hx
    obtain ⟨rfl, hx⟩ := hx
    generalize hq : tagsR fs gs (rdV (plainR v fs gs ds st).2).1 ((plainR v fs gs ds st).1, [], (rdV (plainR v fs gs ds st).2).2) = q at hx hmx
    obtain ⟨ts', u', s'⟩ := q
    simp only at hx hmx
    subst hx
    obtain ⟨b1, e1, rfl, s1, c1, l1⟩ := short_tagsR fs gs (fun key => findTag_noTags key fs gs hn) _ _ _ _ _ _ _ hq
    obtain ⟨b2, e2, l2⟩ := rdV_long (st := (plainR v fs gs ds st).2) (n := (rdV (plainR v fs gs ds st).2).1) (r := b1) (by rw [← e1])
    obtain ⟨bs, e, l⟩ := short_plainR v fs gs ws ds st (plainR v fs gs ds st).1 b2 hl hg (Prod.ext rfl e2)
    refine ⟨bs, e, fun hm => ?_⟩
    have hfit := hmx (by rw [e] at e0; simp only [Option.some.injEq] at e0; subst e0; exact hm)
    have l := l hm
    have hmx : u'.length ≤ most ∧ ∀ y ∈ u', y.2.length ≤ most := ⟨hfit.fu, fun y hy => (hfit.fx y hy).2⟩
    have hk := noTags_known fs hn
    have hsort := s1 trivial
    have hun : (unknown (known fs) u').map whole2 = u' := by
      rw [unknown_sorted _ _ hsort hmx.1 (fun x _ => by rw [hk]; omega)]
      have : ∀ l : List (Nat × List UInt8), (∀ y ∈ l, y.2.length ≤ most) → l.map whole2 = l := by
        intro l
        induction l with
        | nil => intro _; rfl
        | cons a l ih =>
          intro h
          rw [List.map_cons, ih (fun y hy => h y (List.mem_cons_of_mem _ hy))]
          simp only [whole2, List.take_of_length_le (h a (by simp))]
      exact this u' hmx.2
    simp only [List.flatMap_nil, List.length_nil, Nat.zero_add] at l1 c1
    have hmono := uvF_mono 10 u'.length (rdV (plainR v fs gs ds st).2).1 c1
    have h' : (uv u'.length).length ≤ (uv (rdV (plainR v fs gs ds st).2).1).length := hmono
    simp only [asmW, if_true, knownW_none fs ws qs _ hk, List.nil_append, hun, tagsB, List.length_append]
    omega

theorem short_field (v : Int) (flex : Bool) (f : F) (hok : okF v flex f = true) (hn : noTag f = true) (hp : okFs v flex f.sub = true → ∀ (i : Nat) f' g w, f.sub[i]? = some f' → (rds v flex f.sub)[i]? = some g → (wrs v flex f.sub)[i]? = some w → f'.has v = true → Short w g) (hhas : f.has v = true) :
    Short (wr v flex f) (rd v flex f) := by
  intro st t r h
  rw [noTag_eq, Bool.and_eq_true] at hn
  rw [okF_eq] at hok
  simp only [Bool.and_eq_true, decide_eq_true_eq] at hok
  obtain ⟨⟨⟨hok, hlen⟩, hmay⟩, -⟩ := hok
  rw [rd_eq] at h
  rw [wr_eq]
  have hpart : okFs v flex f.sub = true → Short (asmW v flex f.sub (wrs v flex f.sub) (usuals f.sub)) (asmR v flex f.sub (rds v flex f.sub) (dfltOf f.sub)) := fun hs =>
    short_asm v flex f.sub _ _ _ _ (by rw [(known_rds f.sub v flex).1, (known_rds f.sub v flex).2.1]) hn.2 (hp hs) (tame_asmR v flex _ _ _ hlen (tame_rds v flex f.sub hs) (fit_dflts v flex f.sub hs))
  have hnul : f.nul v t = (t.null && f.may v) := rfl
  by_cases h11 : f.kind = 11
  · have hof : scalar f.of = true ∨ (f.of = 10 ∧ okFs v flex f.sub = true) := by
      simp only [h11, Bool.or_eq_true, Bool.and_eq_true, decide_eq_true_eq] at hok
      rcases hok with (hok | hok) | hok
      · simp [scalar] at hok
      · omega
      · rcases hok.2 with h | h
        · exact .inl h
        · exact .inr ⟨h.1.1, h.1.2⟩
    rw [fieldR_list _ _ _ _ h11] at h
    rw [fieldW_list _ _ _ _ _ h11, hnul]
    refine short_listR flex (f.may v) _ (valW f.of (asmW v flex f.sub (wrs v flex f.sub) (usuals f.sub)) false flex) ?_ st t r h
    intro st x r hx
    have := short_valR f.of _ (asmW v flex f.sub (wrs v flex f.sub) (usuals f.sub)) false flex (fun h10 => by
      rcases hof with hof | hof
      · rw [h10] at hof; simp [scalar] at hof
      · exact hpart hof.2) (by
      rcases hof with hof | hof
      · exact .inl hof
      · exact .inr hof.1) st x r hx
    simpa only [Bool.and_false] using this
  · have hk10 : scalar f.kind = true ∨ (f.kind = 10 ∧ okFs v flex f.sub = true) := by
      simp only [Bool.or_eq_true, Bool.and_eq_true, decide_eq_true_eq] at hok
      rcases hok with (hok | hok) | hok
      · exact .inl hok
      · exact .inr hok
      · exact absurd hok.1 h11
    by_cases hns : f.kind = 10 ∧ 0 ≤ f.null
    · have hs : okFs v flex f.sub = true := by
        rcases hk10 with h | h
        · rw [hns.1] at h; simp [scalar] at h
        · exact h.2
      rw [fieldR_struct _ _ _ _ hns.1 hns.2] at h
      rw [fieldW_struct _ _ _ _ _ hns.1 hns.2]
      simp only at h
      by_cases hc : (rdI 1 st).1 ≠ -1 ∧ (rdI 1 st).2.isSome = true
      · rw [if_pos hc] at h
        obtain ⟨b1, e1, l1⟩ := hpart hs _ _ _ h
        obtain ⟨bs, e, l⟩ := rdN_spec (g := fun l => sgn 1 (beNat l)) (z := 0) (x := (rdI 1 st).1) (st := st) (r := b1) (show rdI 1 st = _ from Prod.ext rfl e1)
        refine ⟨bs, e, fun hm => ?_⟩
        have l1 := l1 (by omega)
        split
        · rw [fixed_length]; omega
        · rw [List.length_append, fixed_length]; omega
      · rw [if_neg hc] at h
        simp only [Prod.mk.injEq] at h
        obtain ⟨rfl, h⟩ := h
        obtain ⟨bs, e, l⟩ := rdN_spec (g := fun l => sgn 1 (beNat l)) (z := 0) (x := (rdI 1 st).1) (st := st) (r := r) (show rdI 1 st = _ from Prod.ext rfl h)
        refine ⟨bs, e, fun hm => ?_⟩
        have hmay : f.may v = true := by
          cases hx : f.may v with
          | true => rfl
          | false =>
            rw [hx, hhas] at hmay
            simp [hns.1] at hmay
            omega
        rw [if_pos (by rw [hnul, hmay]; rfl), fixed_length]; omega
    · rw [fieldR_val _ _ _ _ h11 hns] at h
      rw [fieldW_val _ _ _ _ _ h11 hns, hnul]
      refine short_valR f.kind _ (asmW v flex f.sub (wrs v flex f.sub) (usuals f.sub)) (f.may v) flex (fun h10 => ?_) ?_ st t r h
      · rcases hk10 with hs | hs
        · rw [h10] at hs; simp [scalar] at hs
        · exact hpart hs.2
      · rcases hk10 with hs | hs
        · exact .inl hs
        · exact .inr hs.1
mutual
theorem short_rd (v : Int) (flex : Bool) : ∀ (f : F), okF v flex f = true → noTag f = true → f.has v = true → Short (wr v flex f) (rd v flex f)
  | .mk _ _ _ _ _ _ _ sub => fun hok hn => short_field v flex _ hok hn (fun h => short_rds v flex sub h (by
      rw [noTag, Bool.and_eq_true] at hn
      exact hn.2))
theorem short_rds (v : Int) (flex : Bool) : ∀ (fs : List F), okFs v flex fs = true → noTags fs = true → ∀ (i : Nat) f g w, fs[i]? = some f → (rds v flex fs)[i]? = some g → (wrs v flex fs)[i]? = some w → f.has v = true → Short w g
  | [] => fun _ _ i f g w h => by simp at h
  | a :: fs => fun h hn i f g w h0 h1 h2 hh => by
    simp only [okFs, Bool.and_eq_true, decide_eq_true_eq] at h
    simp only [noTags, Bool.and_eq_true] at hn
    cases i with
    | zero =>
      simp only [rds, wrs, List.getElem?_cons_zero, Option.some.injEq] at h0 h1 h2
      subst h0; subst h1; subst h2
      exact short_rd v flex a h.1.1.1 hn.1 hh
    | succ i => exact short_rds v flex fs h.2 hn.2 i f g w (by simpa using h0) (by simpa [rds] using h1) (by simpa [wrs] using h2) hh
end
theorem short_part (v : Int) (flex : Bool) (fs : List F) (hok : okFs v flex fs = true) (hn : noTags fs = true) (hl : fs.length ≤ most) : Short (part v flex fs) (rdPart v flex fs) :=
  short_asm v flex fs _ _ _ _ (by rw [(known_rds fs v flex).1, (known_rds fs v flex).2.1]) hn (short_rds v flex fs hok hn) (tame_part v flex fs hok hl)

/-! ## How long it is at most -/

mutual
def tsize : T → Nat
  | .mk _ s _ l u => 1 + s.length + tsizes l + (u.map fun x => 1 + x.2.length).sum
def tsizes : List T → Nat
  | [] => 0
  | t :: ts => tsize t + tsizes ts
end
mutual
def wt : F → Nat
  | .mk _ _ _ _ _ _ _ sub => 100 + 2 * wts sub
def wts : List F → Nat
  | [] => 0
  | f :: fs => wt f + wts fs
end
theorem wt_eq (f : F) : wt f = 100 + 2 * wts f.sub := by cases f; rw [wt]
theorem tsize_eq (t : T) : tsize t = 1 + t.s.length + tsizes t.l + (t.u.map fun x => 1 + x.2.length).sum := by cases t; rw [tsize]
theorem tsize_pos (t : T) : 1 ≤ tsize t := by rw [tsize_eq]; omega
theorem tsize_head (l : List T) : tsize (l.headD T.zero) ≤ 1 + tsizes l := by
  cases l with
  | nil => simp [tsize, T.zero, tsizes]
  | cons a l => simp only [List.headD_cons, tsizes]; omega
theorem tsizes_tail (l : List T) : tsizes l.tail ≤ tsizes l := by
  cases l with
  | nil => simp
  | cons a l => simp only [List.tail_cons, tsizes]; omega

theorem uvF_len : ∀ (k n : Nat), (uvF k n).length ≤ k := by
  intro k
  induction k with
  | zero => intro n; simp [uvF]
  | succ k ih =>
    intro n
    simp only [uvF]
    split
    · simp
    · simp only [List.length_cons]; have := ih (n / 128); omega
theorem uv_len (n : Nat) : (uv n).length ≤ 10 := uvF_len 10 n
theorem counted_len (flex null : Bool) (n size : Nat) (hs : size ≤ 4) : (counted flex null n size).length ≤ 10 := by
  have := uv_len (n + 1)
  cases flex <;> cases null <;> simp [counted, fixed_length] <;> omega

theorem valW_len (kind : Nat) (pw : T → List UInt8) (null flex : Bool) (t : T) (W : Nat) (hW : 100 ≤ W) (hp : kind = 10 → (pw t).length + 40 ≤ W * tsize t) : (valW kind pw null flex t).length + 40 ≤ W * tsize t := by
  have hb : 100 * tsize t ≤ W * tsize t := Nat.mul_le_mul_right _ hW
  have hs := tsize_eq t
  have htk := take_len t.s
  have c2 := fun nl n => counted_len flex nl n 2 (by decide)
  have c4 := fun nl n => counted_len flex nl n 4 (by decide)
  by_cases h10 : kind = 10
  · subst h10; rw [valW_part]; exact hp rfl
  · unfold valW
    split
    · simp only [List.length_cons, List.length_nil]; omega
    split
    · rw [uuid_length]; omega
    split
    · split
      · have := c2 true 0; omega
      · have := c2 false (t.s.take most).length; rw [List.length_append]; omega
    split
    · split
      · have := c4 true 0; omega
      · have := c4 false (t.s.take most).length; rw [List.length_append]; omega
    · rw [fixed_length]
      have : width kind ≤ 8 := by unfold width; split <;> (try split) <;> (try split) <;> omega
      omega

theorem plainW_len (v : Int) : ∀ (fs : List F) (ws : List (T → List UInt8)) (ts : List T) (N : Nat), tsizes ts + 1 ≤ N → (∀ (i : Nat) f w, fs[i]? = some f → ws[i]? = some w → ∀ t, (w t).length + 20 ≤ wt f * tsize t) →
    (plainW v fs ws ts).length ≤ wts fs * N := by
  intro fs
  induction fs with
  | nil => intro ws ts N _ _; simp [plainW]
  | cons f fs ih =>
    intro ws ts N hN hw
    cases ws with
    | nil => simp [plainW]
    | cons w ws =>
      have h1 := ih ws ts.tail N (by have := tsizes_tail ts; omega) (fun i f' w' a b => hw (i + 1) f' w' (by simpa using a) (by simpa using b))
      have h2 := hw 0 f w rfl rfl (ts.headD T.zero)
      have h3 : wt f * tsize (ts.headD T.zero) ≤ wt f * N := Nat.mul_le_mul_left _ (by have := tsize_head ts; omega)
      simp only [plainW, List.length_append, wts, Nat.add_mul]
      split
      · omega
      · simp only [List.length_nil]; omega

theorem tagW_len : ∀ (fs : List F) (ws : List (T → List UInt8)) (qs : List (T → Bool)) (ts : List T) (N : Nat) (l : List Nat), l.Nodup → tsizes ts + 1 ≤ N → (∀ (i : Nat) f w, fs[i]? = some f → ws[i]? = some w → ∀ t, (w t).length + 20 ≤ wt f * tsize t) →
    ((l.flatMap fun tag => tagW tag fs ws qs ts).flatMap tagB).length ≤ wts fs * N := by
  intro fs
  induction fs with
  | nil =>
    intro ws qs ts N l _ _ _
    have : (l.flatMap fun tag => tagW tag [] ws qs ts) = [] := by simp [tagW]
    rw [this]; simp
  | cons f fs ih =>
    intro ws qs ts N l hl hN hw
    cases ws with
    | nil =>
      have : (l.flatMap fun tag => tagW tag (f :: fs) [] qs ts) = [] := by
        clear hl
        induction l with
        | nil => rfl
        | cons a l ih => rw [List.flatMap_cons, ih]; simp [tagW]
      rw [this]; simp
    | cons w ws =>
      cases qs with
      | nil =>
        have : (l.flatMap fun tag => tagW tag (f :: fs) (w :: ws) [] ts) = [] := by
          clear hl
          induction l with
          | nil => rfl
          | cons a l ih => rw [List.flatMap_cons, ih]; simp [tagW]
        rw [this]; simp
      | cons q qs =>
        have h1 := ih ws qs ts.tail N l hl (by have := tsizes_tail ts; omega) (fun i f' w' a b => hw (i + 1) f' w' (by simpa using a) (by simpa using b))
        have h2 := hw 0 f w rfl rfl (ts.headD T.zero)
        have h3 : wt f * tsize (ts.headD T.zero) ≤ wt f * N := Nat.mul_le_mul_left _ (by have := tsize_head ts; omega)
        have key : ∀ (l : List Nat), l.Nodup → ((l.flatMap fun tag => tagW tag (f :: fs) (w :: ws) (q :: qs) ts).flatMap tagB).length ≤
            ((l.flatMap fun tag => tagW tag fs ws qs ts.tail).flatMap tagB).length + (if ∃ x ∈ l, f.tag = (x : Int) then wt f * N else 0) := by
          intro l
          induction l with
          | nil => intro _; simp
          | cons a l ihl =>
            intro hn
            obtain ⟨hn1, hn2⟩ := List.nodup_cons.1 hn
            have hi := ihl hn2
            have et : tagW a (f :: fs) (w :: ws) (q :: qs) ts = (if f.tag = (a : Int) ∧ ¬q (ts.headD T.zero) = true then [(a, w (ts.headD T.zero))] else []) ++ tagW a fs ws qs ts.tail := by simp only [tagW]
            rw [List.flatMap_cons, List.flatMap_cons, et, List.flatMap_append, List.flatMap_append, List.flatMap_append, List.length_append, List.length_append, List.length_append]
            by_cases hc : f.tag = (a : Int) ∧ ¬q (ts.headD T.zero) = true
            · rw [if_pos hc]
              have hno : ¬ ∃ x ∈ l, f.tag = (x : Int) := by
                rintro ⟨x, hx, hxt⟩
                have : x = a := by omega
                exact hn1 (this ▸ hx)
              rw [if_neg hno] at hi
              rw [if_pos ⟨a, by simp, hc.1⟩]
              have u1 := uv_len a
              have u2 := uv_len (w (ts.headD T.zero)).length
              simp only [List.flatMap_cons, List.flatMap_nil, List.append_nil]
              have e1 : (tagB (a, w (ts.headD T.zero))).length = (uv a).length + (uv (w (ts.headD T.zero)).length).length + (w (ts.headD T.zero)).length := by simp only [tagB, List.length_append]
              omega
            · rw [if_neg hc]
              simp only [List.flatMap_nil, List.length_nil, Nat.zero_add]
              have : (if ∃ x ∈ l, f.tag = (x : Int) then wt f * N else 0) ≤ (if ∃ x ∈ a :: l, f.tag = (x : Int) then wt f * N else 0) := by
                by_cases hx : ∃ x ∈ l, f.tag = (x : Int)
                · obtain ⟨x, hx, e⟩ := hx
                  rw [if_pos ⟨x, hx, e⟩, if_pos ⟨x, List.mem_cons_of_mem _ hx, e⟩]
                  exact Nat.le_refl _
                · rw [if_neg hx]; omega
              omega
        have hk := key l hl
        have : (if ∃ x ∈ l, f.tag = (x : Int) then wt f * N else 0) ≤ wt f * N := by split <;> omega
        simp only [wts, Nat.add_mul]
        omega

theorem insTag_sum (k : Nat) (v : List UInt8) (l : List (Nat × List UInt8)) : ((insTag k v l).map fun x => 1 + x.2.length).sum ≤ (l.map fun x => 1 + x.2.length).sum + (1 + v.length) := by
  induction l with
  | nil => simp [insTag]
  | cons a l ih =>
    obtain ⟨j, w⟩ := a
    simp only [insTag]
    split
    · simp only [List.map_cons, List.sum_cons]; omega
    · split
      · simp only [List.map_cons, List.sum_cons]; omega
      · simp only [List.map_cons, List.sum_cons]; omega
theorem unknown_sum (n : Nat) (u : List (Nat × List UInt8)) : ((unknown n u).map fun x => 1 + x.2.length).sum ≤ (u.map fun x => 1 + x.2.length).sum := by
  have key : ∀ (l out : List (Nat × List UInt8)), ((l.foldl (fun out t => if t.1 < n then out else insTag t.1 t.2 out) out).map fun x => 1 + x.2.length).sum ≤
      (out.map fun x => 1 + x.2.length).sum + (l.map fun x => 1 + x.2.length).sum := by
    intro l
    induction l with
    | nil => intro out; simp
    | cons a l ih =>
      intro out
      simp only [List.foldl_cons, List.map_cons, List.sum_cons]
      split
      · have := ih out; omega
      · have h1 := ih (insTag a.1 a.2 out)
        have h2 := insTag_sum a.1 a.2 out
        omega
  have h1 := key (u.take most) []
  have h2 : ∀ (l : List (Nat × List UInt8)) (k : Nat), ((l.take k).map fun x => 1 + x.2.length).sum ≤ (l.map fun x => 1 + x.2.length).sum := by
    intro l
    induction l with
    | nil => intro k; simp
    | cons a l ih =>
      intro k
      cases k with
      | zero => simp
      | succ k => have := ih k; simp only [List.take_succ_cons, List.map_cons, List.sum_cons]; omega
  have h3 := h2 u most
  simp only [List.map_nil, List.sum_nil, Nat.zero_add] at h1
  unfold unknown
  omega
theorem tagsB_len (l : List (Nat × List UInt8)) : ((l.map whole2).flatMap tagB).length ≤ 20 * (l.map fun x => 1 + x.2.length).sum := by
  induction l with
  | nil => simp
  | cons a l ih =>
    have u1 := uv_len (whole2 a).1
    have u2 := uv_len (whole2 a).2.length
    have u3 := take_len a.2
    simp only [List.map_cons, List.flatMap_cons, List.length_append, List.sum_cons, tagB] at ih ⊢
    have : (whole2 a).2.length ≤ a.2.length := u3
    omega

theorem asmW_len (v : Int) (flex : Bool) (fs : List F) (ws : List (T → List UInt8)) (qs : List (T → Bool)) (t : T) (hw : ∀ (i : Nat) f w, fs[i]? = some f → ws[i]? = some w → ∀ t, (w t).length + 20 ≤ wt f * tsize t) :
    (asmW v flex fs ws qs t).length + 50 ≤ (100 + 2 * wts fs) * tsize t := by
  have hs := tsize_eq t
  have h1 := plainW_len v fs ws t.l (tsize t) (by omega) hw
  have h2 := tagW_len fs ws qs t.l (tsize t) (List.range (known fs)) List.nodup_range (by omega) hw
  have h3 := tagsB_len (unknown (known fs) t.u)
  have h4 := unknown_sum (known fs) t.u
  have h5 := uv_len (knownW fs ws qs t.l ++ (unknown (known fs) t.u).map whole2).length
  have hp := tsize_pos t
  rw [Nat.add_mul]
  have e : 2 * wts fs * tsize t = wts fs * tsize t + wts fs * tsize t := by rw [Nat.mul_assoc]; omega
  cases flex with
  | false =>
    simp only [asmW, Bool.false_eq_true, if_false, List.append_nil]
    omega
  | true =>
    simp only [asmW, if_true, tagsB, List.length_append, List.flatMap_append] at h5 ⊢
    have h2' : ((knownW fs ws qs t.l).flatMap tagB).length ≤ wts fs * tsize t := h2
    omega

theorem flatMap_len (w : T → List UInt8) (W : Nat) : ∀ (l : List T), (∀ t ∈ l, (w t).length + 40 ≤ W * tsize t) → (l.flatMap w).length ≤ W * tsizes l := by
  intro l
  induction l with
  | nil => intro _; simp
  | cons a l ih =>
    intro h
    have h1 := h a (by simp)
    have h2 := ih (fun t ht => h t (List.mem_cons_of_mem _ ht))
    simp only [List.flatMap_cons, List.length_append, tsizes, Nat.mul_add]
    omega
theorem tsizes_take (l : List T) (k : Nat) : tsizes (l.take k) ≤ tsizes l := by
  induction l generalizing k with
  | nil => simp
  | cons a l ih =>
    cases k with
    | zero => simp [tsizes]
    | succ k => have := ih k; simp only [List.take_succ_cons, tsizes]; omega

theorem field_len (v : Int) (flex : Bool) (f : F) (hw : ∀ (i : Nat) f' w, f.sub[i]? = some f' → (wrs v flex f.sub)[i]? = some w → ∀ t, (w t).length + 20 ≤ wt f' * tsize t) :
    ∀ t, (wr v flex f t).length + 20 ≤ wt f * tsize t := by
  intro t
  have hW := wt_eq f
  have hpart := fun t => asmW_len v flex f.sub (wrs v flex f.sub) (usuals f.sub) t hw
  rw [← hW] at hpart
  have hp := tsize_pos t
  have hb : 100 * tsize t ≤ wt f * tsize t := Nat.mul_le_mul_right _ (by omega)
  rw [wr_eq]
  by_cases h11 : f.kind = 11
  · rw [fieldW_list _ _ _ _ _ h11]
    split
    · have := counted_len flex true 0 4 (by decide); omega
    · have h1 := counted_len flex false (t.l.take most).length 4 (by decide)
      have h2 := flatMap_len (valW f.of (asmW v flex f.sub (wrs v flex f.sub) (usuals f.sub)) false flex) (wt f) (t.l.take most) (fun x _ => valW_len _ _ _ _ _ _ (by omega) (fun _ => by have := hpart x; omega))
      have h3 := tsizes_take t.l most
      have h4 := tsize_eq t
      have h5 : wt f * tsizes (t.l.take most) + wt f ≤ wt f * tsize t := by
        rw [← Nat.mul_succ]
        exact Nat.mul_le_mul_left _ (by omega)
      rw [List.length_append]
      omega
  · by_cases hns : f.kind = 10 ∧ 0 ≤ f.null
    · rw [fieldW_struct _ _ _ _ _ hns.1 hns.2]
      split
      · rw [fixed_length]; omega
      · have := hpart t
        rw [List.length_append, fixed_length]; omega
    · rw [fieldW_val _ _ _ _ _ h11 hns]
      have := valW_len f.kind (asmW v flex f.sub (wrs v flex f.sub) (usuals f.sub)) (f.nul v t) flex t (wt f) (by omega) (fun _ => by have := hpart t; omega)
      omega
mutual
theorem wr_len (v : Int) (flex : Bool) : ∀ (f : F) (t : T), (wr v flex f t).length + 20 ≤ wt f * tsize t
  | .mk _ _ _ _ _ _ _ sub => fun t => field_len v flex _ (wrs_len v flex sub) t
theorem wrs_len (v : Int) (flex : Bool) : ∀ (fs : List F) (i : Nat) f w, fs[i]? = some f → (wrs v flex fs)[i]? = some w → ∀ t, (w t).length + 20 ≤ wt f * tsize t
  | [] => fun i f w h => by simp at h
  | a :: fs => fun i f w h1 h2 t => by
    cases i with
    | zero =>
      simp only [wrs, List.getElem?_cons_zero, Option.some.injEq] at h1 h2
      subst h1; subst h2
      exact wr_len v flex a t
    | succ i => exact wrs_len v flex fs i f w (by simpa using h1) (by simpa [wrs] using h2) t
end
theorem part_len (v : Int) (flex : Bool) (fs : List F) (t : T) : (part v flex fs t).length ≤ (100 + 2 * wts fs) * tsize t := by
  have := asmW_len v flex fs (wrs v flex fs) (usuals fs) t (wrs_len v flex fs)
  have e : part v flex fs t = asmW v flex fs (wrs v flex fs) (usuals fs) t := rfl
  rw [e]
  omega

/-! ## The three laws -/

/-- A message that is served at a version. -/
def M.ok (m : M) (v : Int) : Bool := okFs v (m.isFlex v) m.fields && decide (m.fields.length ≤ most)
theorem again_law (m : M) (v : Int) (t : T) (hok : m.ok v = true) (hk : KeysOk t) (hz : (write m v t).length < 4294967296) :
    ∃ t', m.read v (some (write m v t)) = (t', some []) ∧ write m v t' = write m v t ∧ Fit t' ∧ ∀ k, k < (write m v t).length → (m.read v (some ((write m v t).take k))).2 = none := by
  simp only [M.ok, Bool.and_eq_true, decide_eq_true_eq] at hok
  have e := exact_part v (m.isFlex v) m.fields hok.1 t hk hz
  have h0 := e.all []
  rw [List.append_nil] at h0
  exact ⟨_, h0, part_canon v (m.isFlex v) m.fields hok.1 t, fit_canonPart v (m.isFlex v) m.fields hok.1 hok.2 t hk, e.cut⟩
theorem any_law (m : M) (v : Int) (bs r : List UInt8) (t : T) (hok : m.ok v = true) (hn : noTags m.fields = true) (hb : bs.length ≤ most) (h : m.read v (some bs) = (t, some r)) :
    Fit t ∧ (write m v t).length ≤ bs.length ∧ ∃ t', m.read v (some (write m v t)) = (t', some []) ∧ write m v t' = write m v t ∧ Fit t' := by
  have hok' := hok
  simp only [M.ok, Bool.and_eq_true, decide_eq_true_eq] at hok'
  obtain ⟨b1, e1, l1, f1⟩ := tame_part v (m.isFlex v) m.fields hok'.1 hok'.2 (some bs) t r h
  obtain ⟨b2, e2, l2⟩ := short_part v (m.isFlex v) m.fields hok'.1 hn hok'.2 (some bs) t r h
  simp only [Option.some.injEq] at e1 e2
  subst e1; subst e2
  have l2 := l2 hb
  have hw : (write m v t).length + r.length ≤ bs.length := l2
  have hm : most < 4294967296 := by decide
  obtain ⟨t', a1, a2, a3, -⟩ := again_law m v t hok (f1 hb).keys (by omega)
  exact ⟨f1 hb, by omega, t', a1, a2, a3⟩
end Go.Proofs.YtpknjenihcfhlaaDoor.Kz
/-
  How long what is written is at most, a place of a tree counted six. Conditions: none.
-/
namespace Go.Proofs.YtpknjenihcfhlaaDoor.Kz.L6
/-! ## How long it is at most -/

mutual
def tsize : T → Nat
  | .mk _ s _ l u => 6 + s.length + tsizes l + (u.map fun x => 3 + x.2.length).sum
def tsizes : List T → Nat
  | [] => 0
  | t :: ts => tsize t + tsizes ts
end
theorem tsize_eq (t : T) : tsize t = 6 + t.s.length + tsizes t.l + (t.u.map fun x => 3 + x.2.length).sum := by cases t; rw [tsize]
theorem tsize_pos (t : T) : 6 ≤ tsize t := by rw [tsize_eq]; omega
theorem tsize_head (l : List T) : tsize (l.headD T.zero) ≤ 6 + tsizes l := by
  cases l with
  | nil => simp [tsize, T.zero, tsizes]
  | cons a l => simp only [List.headD_cons, tsizes]; omega
theorem tsizes_tail (l : List T) : tsizes l.tail ≤ tsizes l := by
  cases l with
  | nil => simp
  | cons a l => simp only [List.tail_cons, tsizes]; omega

theorem valW_len (kind : Nat) (pw : T → List UInt8) (null flex : Bool) (t : T) (W : Nat) (hW : 100 ≤ W) (hp : kind = 10 → 6 * (pw t).length + 240 ≤ W * tsize t) : 6 * (valW kind pw null flex t).length + 240 ≤ W * tsize t := by
  have hb : 100 * tsize t ≤ W * tsize t := Nat.mul_le_mul_right _ hW
  have hs := tsize_eq t
  have htk := take_len t.s
  have c2 := fun nl n => counted_len flex nl n 2 (by decide)
  have c4 := fun nl n => counted_len flex nl n 4 (by decide)
  by_cases h10 : kind = 10
  · subst h10; rw [valW_part]; exact hp rfl
  · unfold valW
    split
    · simp only [List.length_cons, List.length_nil]; omega
    split
    · rw [uuid_length]; omega
    split
    · split
      · have := c2 true 0; omega
      · have := c2 false (t.s.take most).length; rw [List.length_append]; omega
    split
    · split
      · have := c4 true 0; omega
      · have := c4 false (t.s.take most).length; rw [List.length_append]; omega
    · rw [fixed_length]
      have : width kind ≤ 8 := by unfold width; split <;> (try split) <;> (try split) <;> omega
      omega

theorem plainW_len (v : Int) : ∀ (fs : List F) (ws : List (T → List UInt8)) (ts : List T) (N : Nat), tsizes ts + 6 ≤ N → (∀ (i : Nat) f w, fs[i]? = some f → ws[i]? = some w → ∀ t, 6 * (w t).length + 120 ≤ wt f * tsize t) →
    6 * (plainW v fs ws ts).length ≤ wts fs * N := by
  intro fs
  induction fs with
  | nil => intro ws ts N _ _; simp [plainW]
  | cons f fs ih =>
    intro ws ts N hN hw
    cases ws with
    | nil => simp [plainW]
    | cons w ws =>
      have h1 := ih ws ts.tail N (by have := tsizes_tail ts; omega) (fun i f' w' a b => hw (i + 1) f' w' (by simpa using a) (by simpa using b))
      have h2 := hw 0 f w rfl rfl (ts.headD T.zero)
      have h3 : wt f * tsize (ts.headD T.zero) ≤ wt f * N := Nat.mul_le_mul_left _ (by have := tsize_head ts; omega)
      simp only [plainW, List.length_append, wts, Nat.add_mul]
      split
      · omega
      · simp only [List.length_nil]; omega

theorem tagW_len : ∀ (fs : List F) (ws : List (T → List UInt8)) (qs : List (T → Bool)) (ts : List T) (N : Nat) (l : List Nat), l.Nodup → tsizes ts + 6 ≤ N → (∀ (i : Nat) f w, fs[i]? = some f → ws[i]? = some w → ∀ t, 6 * (w t).length + 120 ≤ wt f * tsize t) →
    6 * ((l.flatMap fun tag => tagW tag fs ws qs ts).flatMap tagB).length ≤ wts fs * N := by
  intro fs
  induction fs with
  | nil =>
    intro ws qs ts N l _ _ _
    have : (l.flatMap fun tag => tagW tag [] ws qs ts) = [] := by simp [tagW]
    rw [this]; simp
  | cons f fs ih =>
    intro ws qs ts N l hl hN hw
    cases ws with
    | nil =>
      have : (l.flatMap fun tag => tagW tag (f :: fs) [] qs ts) = [] := by
        clear hl
        induction l with
        | nil => rfl
        | cons a l ih => rw [List.flatMap_cons, ih]; simp [tagW]
      rw [this]; simp
    | cons w ws =>
      cases qs with
      | nil =>
        have : (l.flatMap fun tag => tagW tag (f :: fs) (w :: ws) [] ts) = [] := by
          clear hl
          induction l with
          | nil => rfl
          | cons a l ih => rw [List.flatMap_cons, ih]; simp [tagW]
        rw [this]; simp
      | cons q qs =>
        have h1 := ih ws qs ts.tail N l hl (by have := tsizes_tail ts; omega) (fun i f' w' a b => hw (i + 1) f' w' (by simpa using a) (by simpa using b))
        have h2 := hw 0 f w rfl rfl (ts.headD T.zero)
        have h3 : wt f * tsize (ts.headD T.zero) ≤ wt f * N := Nat.mul_le_mul_left _ (by have := tsize_head ts; omega)
        have key : ∀ (l : List Nat), l.Nodup → 6 * ((l.flatMap fun tag => tagW tag (f :: fs) (w :: ws) (q :: qs) ts).flatMap tagB).length ≤
            6 * ((l.flatMap fun tag => tagW tag fs ws qs ts.tail).flatMap tagB).length + (if ∃ x ∈ l, f.tag = (x : Int) then wt f * N else 0) := by
          intro l
          induction l with
          | nil => intro _; simp
          | cons a l ihl =>
            intro hn
            obtain ⟨hn1, hn2⟩ := List.nodup_cons.1 hn
            have hi := ihl hn2
            have et : tagW a (f :: fs) (w :: ws) (q :: qs) ts = (if f.tag = (a : Int) ∧ ¬q (ts.headD T.zero) = true then [(a, w (ts.headD T.zero))] else []) ++ tagW a fs ws qs ts.tail := by simp only [tagW]
            rw [List.flatMap_cons, List.flatMap_cons, et, List.flatMap_append, List.flatMap_append, List.flatMap_append, List.length_append, List.length_append, List.length_append]
            by_cases hc : f.tag = (a : Int) ∧ ¬q (ts.headD T.zero) = true
            · rw [if_pos hc]
              have hno : ¬ ∃ x ∈ l, f.tag = (x : Int) := by
                rintro ⟨x, hx, hxt⟩
                have : x = a := by omega
                exact hn1 (this ▸ hx)
              rw [if_neg hno] at hi
              rw [if_pos ⟨a, by simp, hc.1⟩]
              have u1 := uv_len a
              have u2 := uv_len (w (ts.headD T.zero)).length
              simp only [List.flatMap_cons, List.flatMap_nil, List.append_nil]
              have e1 : (tagB (a, w (ts.headD T.zero))).length = (uv a).length + (uv (w (ts.headD T.zero)).length).length + (w (ts.headD T.zero)).length := by simp only [tagB, List.length_append]
              omega
            · rw [if_neg hc]
              simp only [List.flatMap_nil, List.length_nil, Nat.zero_add]
              have : (if ∃ x ∈ l, f.tag = (x : Int) then wt f * N else 0) ≤ (if ∃ x ∈ a :: l, f.tag = (x : Int) then wt f * N else 0) := by
                by_cases hx : ∃ x ∈ l, f.tag = (x : Int)
                · obtain ⟨x, hx, e⟩ := hx
                  rw [if_pos ⟨x, hx, e⟩, if_pos ⟨x, List.mem_cons_of_mem _ hx, e⟩]
                  exact Nat.le_refl _
                · rw [if_neg hx]; omega
              omega
        have hk := key l hl
        have : (if ∃ x ∈ l, f.tag = (x : Int) then wt f * N else 0) ≤ wt f * N := by split <;> omega
        simp only [wts, Nat.add_mul]
        omega

theorem insTag_sum (k : Nat) (v : List UInt8) (l : List (Nat × List UInt8)) : ((insTag k v l).map fun x => 3 + x.2.length).sum ≤ (l.map fun x => 3 + x.2.length).sum + (3 + v.length) := by
  induction l with
  | nil => simp [insTag]
  | cons a l ih =>
    obtain ⟨j, w⟩ := a
    simp only [insTag]
    split
    · simp only [List.map_cons, List.sum_cons]; omega
    · split
      · simp only [List.map_cons, List.sum_cons]; omega
      · simp only [List.map_cons, List.sum_cons]; omega
theorem unknown_sum (n : Nat) (u : List (Nat × List UInt8)) : ((unknown n u).map fun x => 3 + x.2.length).sum ≤ (u.map fun x => 3 + x.2.length).sum := by
  have key : ∀ (l out : List (Nat × List UInt8)), ((l.foldl (fun out t => if t.1 < n then out else insTag t.1 t.2 out) out).map fun x => 3 + x.2.length).sum ≤
      (out.map fun x => 3 + x.2.length).sum + (l.map fun x => 3 + x.2.length).sum := by
    intro l
    induction l with
    | nil => intro out; simp
    | cons a l ih =>
      intro out
      simp only [List.foldl_cons, List.map_cons, List.sum_cons]
      split
      · have := ih out; omega
      · have h1 := ih (insTag a.1 a.2 out)
        have h2 := insTag_sum a.1 a.2 out
        omega
  have h1 := key (u.take most) []
  have h2 : ∀ (l : List (Nat × List UInt8)) (k : Nat), ((l.take k).map fun x => 3 + x.2.length).sum ≤ (l.map fun x => 3 + x.2.length).sum := by
    intro l
    induction l with
    | nil => intro k; simp
    | cons a l ih =>
      intro k
      cases k with
      | zero => simp
      | succ k => have := ih k; simp only [List.take_succ_cons, List.map_cons, List.sum_cons]; omega
  have h3 := h2 u most
  simp only [List.map_nil, List.sum_nil, Nat.zero_add] at h1
  unfold unknown
  omega
theorem tagsB_len (l : List (Nat × List UInt8)) : ((l.map whole2).flatMap tagB).length ≤ 7 * (l.map fun x => 3 + x.2.length).sum := by
  induction l with
  | nil => simp
  | cons a l ih =>
    have u1 := uv_len (whole2 a).1
    have u2 := uv_len (whole2 a).2.length
    have u3 := take_len a.2
    simp only [List.map_cons, List.flatMap_cons, List.length_append, List.sum_cons, tagB] at ih ⊢
    have : (whole2 a).2.length ≤ a.2.length := u3
    omega

theorem asmW_len (v : Int) (flex : Bool) (fs : List F) (ws : List (T → List UInt8)) (qs : List (T → Bool)) (t : T) (hw : ∀ (i : Nat) f w, fs[i]? = some f → ws[i]? = some w → ∀ t, 6 * (w t).length + 120 ≤ wt f * tsize t) :
    6 * (asmW v flex fs ws qs t).length + 300 ≤ (100 + 2 * wts fs) * tsize t := by
  have hs := tsize_eq t
  have h1 := plainW_len v fs ws t.l (tsize t) (by omega) hw
  have h2 := tagW_len fs ws qs t.l (tsize t) (List.range (known fs)) List.nodup_range (by omega) hw
  have h3 := tagsB_len (unknown (known fs) t.u)
  have h4 := unknown_sum (known fs) t.u
  have h5 := uv_len (knownW fs ws qs t.l ++ (unknown (known fs) t.u).map whole2).length
  have hp := tsize_pos t
  rw [Nat.add_mul]
  have e : 2 * wts fs * tsize t = wts fs * tsize t + wts fs * tsize t := by rw [Nat.mul_assoc]; omega
  cases flex with
  | false =>
    simp only [asmW, Bool.false_eq_true, if_false, List.append_nil]
    omega
  | true =>
    simp only [asmW, if_true, tagsB, List.length_append, List.flatMap_append] at h5 ⊢
    have h2' : 6 * ((knownW fs ws qs t.l).flatMap tagB).length ≤ wts fs * tsize t := h2
    omega

theorem flatMap_len (w : T → List UInt8) (W : Nat) : ∀ (l : List T), (∀ t ∈ l, 6 * (w t).length + 240 ≤ W * tsize t) → 6 * (l.flatMap w).length ≤ W * tsizes l := by
  intro l
  induction l with
  | nil => intro _; simp
  | cons a l ih =>
    intro h
    have h1 := h a (by simp)
    have h2 := ih (fun t ht => h t (List.mem_cons_of_mem _ ht))
    simp only [List.flatMap_cons, List.length_append, tsizes, Nat.mul_add]
    omega
theorem tsizes_take (l : List T) (k : Nat) : tsizes (l.take k) ≤ tsizes l := by
  induction l generalizing k with
  | nil => simp
  | cons a l ih =>
    cases k with
    | zero => simp [tsizes]
    | succ k => have := ih k; simp only [List.take_succ_cons, tsizes]; omega

theorem field_len (v : Int) (flex : Bool) (f : F) (hw : ∀ (i : Nat) f' w, f.sub[i]? = some f' → (wrs v flex f.sub)[i]? = some w → ∀ t, 6 * (w t).length + 120 ≤ wt f' * tsize t) :
    ∀ t, 6 * (wr v flex f t).length + 120 ≤ wt f * tsize t := by
  intro t
  have hW := wt_eq f
  have hpart := fun t => asmW_len v flex f.sub (wrs v flex f.sub) (usuals f.sub) t hw
  rw [← hW] at hpart
  have hp := tsize_pos t
  have hb : 100 * tsize t ≤ wt f * tsize t := Nat.mul_le_mul_right _ (by omega)
  rw [wr_eq]
  by_cases h11 : f.kind = 11
  · rw [fieldW_list _ _ _ _ _ h11]
    split
    · have := counted_len flex true 0 4 (by decide); omega
    · have h1 := counted_len flex false (t.l.take most).length 4 (by decide)
      have h2 := flatMap_len (valW f.of (asmW v flex f.sub (wrs v flex f.sub) (usuals f.sub)) false flex) (wt f) (t.l.take most) (fun x _ => valW_len _ _ _ _ _ _ (by omega) (fun _ => by have := hpart x; omega))
      have h3 := tsizes_take t.l most
      have h4 := tsize_eq t
      have h5 : wt f * (tsizes (t.l.take most) + 6) ≤ wt f * tsize t := Nat.mul_le_mul_left _ (by omega)
      rw [Nat.mul_add] at h5
      rw [List.length_append]
      omega
  · by_cases hns : f.kind = 10 ∧ 0 ≤ f.null
    · rw [fieldW_struct _ _ _ _ _ hns.1 hns.2]
      split
      · rw [fixed_length]; omega
      · have := hpart t
        rw [List.length_append, fixed_length]; omega
    · rw [fieldW_val _ _ _ _ _ h11 hns]
      have := valW_len f.kind (asmW v flex f.sub (wrs v flex f.sub) (usuals f.sub)) (f.nul v t) flex t (wt f) (by omega) (fun _ => by have := hpart t; omega)
      omega
mutual
theorem wr_len (v : Int) (flex : Bool) : ∀ (f : F) (t : T), 6 * (wr v flex f t).length + 120 ≤ wt f * tsize t
  | .mk _ _ _ _ _ _ _ sub => fun t => field_len v flex _ (wrs_len v flex sub) t
theorem wrs_len (v : Int) (flex : Bool) : ∀ (fs : List F) (i : Nat) f w, fs[i]? = some f → (wrs v flex fs)[i]? = some w → ∀ t, 6 * (w t).length + 120 ≤ wt f * tsize t
  | [] => fun i f w h => by simp at h
  | a :: fs => fun i f w h1 h2 t => by
    cases i with
    | zero =>
      simp only [wrs, List.getElem?_cons_zero, Option.some.injEq] at h1 h2
      subst h1; subst h2
      exact wr_len v flex a t
    | succ i => exact wrs_len v flex fs i f w (by simpa using h1) (by simpa [wrs] using h2) t
end
theorem part_len (v : Int) (flex : Bool) (fs : List F) (t : T) : 6 * (part v flex fs t).length ≤ (100 + 2 * wts fs) * tsize t := by
  have := asmW_len v flex fs (wrs v flex fs) (usuals fs) t (wrs_len v flex fs)
  have e : part v flex fs t = asmW v flex fs (wrs v flex fs) (usuals fs) t := rfl
  rw [e]
  omega

end Go.Proofs.YtpknjenihcfhlaaDoor.Kz.L6
namespace Go.Proofs.YtpknjenihcfhlaaDoor.Kz

/-! ## The most that a field may have, whatever the tree -/

/-- The most of a value. -/
def mxV (kind part : Nat) : Nat := if kind = 8 ∨ kind = 9 then 10 + most else if kind = 10 then part else 16
mutual
def mxF : F → Nat
  | .mk kind _ _ _ _ _ of sub => if kind = 11 then 10 + most * mxV of (2 * mxFs sub + 20 * sub.length + (30 + most) * most + 10) else 1 + mxV kind (2 * mxFs sub + 20 * sub.length + (30 + most) * most + 10)
def mxFs : List F → Nat
  | [] => 0
  | f :: fs => mxF f + mxFs fs
end
/-- The most of a part. -/
def mxP (fs : List F) : Nat := 2 * mxFs fs + 20 * fs.length + (30 + most) * most + 10
theorem mxF_eq (f : F) : mxF f = if f.kind = 11 then 10 + most * mxV f.of (mxP f.sub) else 1 + mxV f.kind (mxP f.sub) := by cases f; rw [mxF]; rfl

theorem insTag_len (k : Nat) (v : List UInt8) (l : List (Nat × List UInt8)) : (insTag k v l).length ≤ l.length + 1 := by
  induction l with
  | nil => simp [insTag]
  | cons a l ih =>
    obtain ⟨j, w⟩ := a
    unfold insTag
    split
    · simp only [List.length_cons]; omega
    · split <;> simp
theorem foldU_len (least : Nat) (l : List (Nat × List UInt8)) : ∀ out : List (Nat × List UInt8), (l.foldl (fun out t => if t.1 < least then out else insTag t.1 t.2 out) out).length ≤ out.length + l.length := by
  induction l with
  | nil => intro out; simp
  | cons a l ih =>
    intro out
    simp only [List.foldl_cons, List.length_cons]
    split
    · have := ih out; omega
    · have h1 := ih (insTag a.1 a.2 out)
      have h2 := insTag_len a.1 a.2 out
      omega
theorem unknown_len (least : Nat) (u : List (Nat × List UInt8)) : (unknown least u).length ≤ most := by
  have h := foldU_len least (u.take most) []
  have h2 : (u.take most).length ≤ most := by rw [List.length_take]; omega
  unfold unknown
  simp only [List.length_nil] at h
  omega
theorem tagsB_mx (l : List (Nat × List UInt8)) : ((l.map whole2).flatMap tagB).length ≤ (20 + most) * l.length := by
  induction l with
  | nil => simp
  | cons a l ih =>
    have u1 := uv_len (whole2 a).1
    have u2 := uv_len (whole2 a).2.length
    have u3 : (whole2 a).2.length ≤ most := by show (a.2.take most).length ≤ most; rw [List.length_take]; omega
    simp only [List.map_cons, List.flatMap_cons, List.length_append, List.length_cons, tagB, Nat.mul_add, Nat.mul_one] at ih ⊢
    omega
theorem plainW_mx (v : Int) : ∀ (fs : List F) (ws : List (T → List UInt8)) (ts : List T), (∀ (i : Nat) f w, fs[i]? = some f → ws[i]? = some w → ∀ t, (w t).length ≤ mxF f) → (plainW v fs ws ts).length ≤ mxFs fs := by
  intro fs
  induction fs with
  | nil => intro ws ts _; simp [plainW, mxFs]
  | cons f fs ih =>
    intro ws ts hw
    cases ws with
    | nil => simp [plainW]
    | cons w ws =>
      have h1 := ih ws ts.tail (fun i f' w' a b => hw (i + 1) f' w' (by simpa using a) (by simpa using b))
      have h2 := hw 0 f w rfl rfl (ts.headD T.zero)
      simp only [plainW, List.length_append, mxFs]
      split
      · omega
      · simp only [List.length_nil]; omega
theorem tagW_mx : ∀ (fs : List F) (ws : List (T → List UInt8)) (qs : List (T → Bool)) (ts : List T) (l : List Nat), l.Nodup → (∀ (i : Nat) f w, fs[i]? = some f → ws[i]? = some w → ∀ t, (w t).length ≤ mxF f) →
    ((l.flatMap fun tag => tagW tag fs ws qs ts).flatMap tagB).length ≤ mxFs fs + 20 * fs.length := by
  intro fs
  induction fs with
  | nil =>
    intro ws qs ts l _ _
    have : (l.flatMap fun tag => tagW tag [] ws qs ts) = [] := by simp [tagW]
    rw [this]; simp
  | cons f fs ih =>
    intro ws qs ts l hl hw
    cases ws with
    | nil =>
      have : (l.flatMap fun tag => tagW tag (f :: fs) [] qs ts) = [] := by
        clear hl
        induction l with
        | nil => rfl
        | cons a l ih => rw [List.flatMap_cons, ih]; simp [tagW]
      rw [this]; simp
    | cons w ws =>
      cases qs with
      | nil =>
        have : (l.flatMap fun tag => tagW tag (f :: fs) (w :: ws) [] ts) = [] := by
          clear hl
          induction l with
          | nil => rfl
          | cons a l ih => rw [List.flatMap_cons, ih]; simp [tagW]
        rw [this]; simp
      | cons q qs =>
        have h1 := ih ws qs ts.tail l hl (fun i f' w' a b => hw (i + 1) f' w' (by simpa using a) (by simpa using b))
        have h2 := hw 0 f w rfl rfl (ts.headD T.zero)
        have key : ∀ (l : List Nat), l.Nodup → ((l.flatMap fun tag => tagW tag (f :: fs) (w :: ws) (q :: qs) ts).flatMap tagB).length ≤
            ((l.flatMap fun tag => tagW tag fs ws qs ts.tail).flatMap tagB).length + (if ∃ x ∈ l, f.tag = (x : Int) then mxF f + 20 else 0) := by
          intro l
          induction l with
          | nil => intro _; simp
          | cons a l ihl =>
            intro hn
            obtain ⟨hn1, hn2⟩ := List.nodup_cons.1 hn
            have hi := ihl hn2
            have et : tagW a (f :: fs) (w :: ws) (q :: qs) ts = (if f.tag = (a : Int) ∧ ¬q (ts.headD T.zero) = true then [(a, w (ts.headD T.zero))] else []) ++ tagW a fs ws qs ts.tail := by simp only [tagW]
            rw [List.flatMap_cons, List.flatMap_cons, et, List.flatMap_append, List.flatMap_append, List.flatMap_append, List.length_append, List.length_append, List.length_append]
            by_cases hc : f.tag = (a : Int) ∧ ¬q (ts.headD T.zero) = true
            · rw [if_pos hc]
              have hno : ¬ ∃ x ∈ l, f.tag = (x : Int) := by
                rintro ⟨x, hx, hxt⟩
                have : x = a := by omega
                exact hn1 (this ▸ hx)
              rw [if_neg hno] at hi
              rw [if_pos ⟨a, by simp, hc.1⟩]
              have u1 := uv_len a
              have u2 := uv_len (w (ts.headD T.zero)).length
              simp only [List.flatMap_cons, List.flatMap_nil, List.append_nil]
              have e1 : (tagB (a, w (ts.headD T.zero))).length = (uv a).length + (uv (w (ts.headD T.zero)).length).length + (w (ts.headD T.zero)).length := by simp only [tagB, List.length_append]
              omega
            · rw [if_neg hc]
              simp only [List.flatMap_nil, List.length_nil, Nat.zero_add]
              have : (if ∃ x ∈ l, f.tag = (x : Int) then mxF f + 20 else 0) ≤ (if ∃ x ∈ a :: l, f.tag = (x : Int) then mxF f + 20 else 0) := by
                by_cases hx : ∃ x ∈ l, f.tag = (x : Int)
                · obtain ⟨x, hx, e⟩ := hx
                  rw [if_pos ⟨x, hx, e⟩, if_pos ⟨x, List.mem_cons_of_mem _ hx, e⟩]
                  exact Nat.le_refl _
                · rw [if_neg hx]; omega
              omega
        have hk := key l hl
        have : (if ∃ x ∈ l, f.tag = (x : Int) then mxF f + 20 else 0) ≤ mxF f + 20 := by split <;> omega
        simp only [mxFs, List.length_cons]
        omega
theorem asmW_mx (v : Int) (flex : Bool) (fs : List F) (ws : List (T → List UInt8)) (qs : List (T → Bool)) (t : T) (hw : ∀ (i : Nat) f w, fs[i]? = some f → ws[i]? = some w → ∀ t, (w t).length ≤ mxF f) :
    (asmW v flex fs ws qs t).length ≤ mxP fs := by
  have h1 := plainW_mx v fs ws t.l hw
  have h2 := tagW_mx fs ws qs t.l (List.range (known fs)) List.nodup_range hw
  have h3 := tagsB_mx (unknown (known fs) t.u)
  have h4 := unknown_len (known fs) t.u
  have h5 := uv_len (knownW fs ws qs t.l ++ (unknown (known fs) t.u).map whole2).length
  have h6 : (20 + most) * (unknown (known fs) t.u).length ≤ (20 + most) * most := Nat.mul_le_mul_left _ h4
  have h7 : (20 + most) * most ≤ (30 + most) * most := Nat.mul_le_mul_right _ (by omega)
  unfold mxP
  cases flex with
  | false =>
    simp only [asmW, Bool.false_eq_true, if_false, List.append_nil]
    omega
  | true =>
    simp only [asmW, if_true, tagsB, List.length_append, List.flatMap_append] at h5 ⊢
    have h2' : ((knownW fs ws qs t.l).flatMap tagB).length ≤ mxFs fs + 20 * fs.length := h2
    omega
theorem valW_mx (kind : Nat) (pw : T → List UInt8) (null flex : Bool) (t : T) (P : Nat) (hp : kind = 10 → ∀ t, (pw t).length ≤ P) : (valW kind pw null flex t).length ≤ mxV kind P := by
  have htk : (t.s.take most).length ≤ most := by rw [List.length_take]; omega
  have c2 := fun nl n => counted_len flex nl n 2 (by decide)
  have c4 := fun nl n => counted_len flex nl n 4 (by decide)
  by_cases h10 : kind = 10
  · subst h10; rw [valW_part]; exact hp rfl t
  by_cases h8 : kind = 8
  · subst h8
    simp only [valW, mxV]
    cases null
    · have := c2 false (t.s.take most).length
      simp
      simp at this htk
      omega
    · have := c2 true 0
      simp
      omega
  by_cases h9 : kind = 9
  · subst h9
    simp only [valW, mxV]
    cases null
    · have := c4 false (t.s.take most).length
      simp
      simp at this htk
      omega
    · have := c4 true 0
      simp
      omega
  have e : mxV kind P = 16 := by simp [mxV, h10, h8, h9]
  rw [e]
  unfold valW
  split
  · simp
  split
  · rw [uuid_length]; omega
  rw [fixed_length]
  have : width kind ≤ 8 := by unfold width; split <;> (try split) <;> (try split) <;> omega
  omega
theorem flatMap_mx (w : T → List UInt8) (W : Nat) : ∀ (l : List T), (∀ t ∈ l, (w t).length ≤ W) → (l.flatMap w).length ≤ l.length * W := by
  intro l
  induction l with
  | nil => intro _; simp
  | cons a l ih =>
    intro h
    have h1 := h a (by simp)
    have h2 := ih (fun t ht => h t (List.mem_cons_of_mem _ ht))
    simp only [List.flatMap_cons, List.length_append, List.length_cons, Nat.succ_mul]
    omega
theorem field_mx (v : Int) (flex : Bool) (f : F) (hw : ∀ (i : Nat) f' w, f.sub[i]? = some f' → (wrs v flex f.sub)[i]? = some w → ∀ t, (w t).length ≤ mxF f') :
    ∀ t, (wr v flex f t).length ≤ mxF f := by
  intro t
  have hpart := fun t => asmW_mx v flex f.sub (wrs v flex f.sub) (usuals f.sub) t hw
  rw [wr_eq, mxF_eq]
  by_cases h11 : f.kind = 11
  · rw [fieldW_list _ _ _ _ _ h11, if_pos h11]
    split
    · have := counted_len flex true 0 4 (by decide); omega
    · have h1 := counted_len flex false (t.l.take most).length 4 (by decide)
      have h2 := flatMap_mx (valW f.of (asmW v flex f.sub (wrs v flex f.sub) (usuals f.sub)) false flex) (mxV f.of (mxP f.sub)) (t.l.take most) (fun x _ => valW_mx _ _ _ _ _ _ (fun _ => hpart))
      have h3 : (t.l.take most).length * mxV f.of (mxP f.sub) ≤ most * mxV f.of (mxP f.sub) := Nat.mul_le_mul_right _ (by rw [List.length_take]; omega)
      rw [List.length_append]
      omega
  · rw [if_neg h11]
    by_cases hns : f.kind = 10 ∧ 0 ≤ f.null
    · rw [fieldW_struct _ _ _ _ _ hns.1 hns.2]
      have e : mxV f.kind (mxP f.sub) = mxP f.sub := by simp [mxV, hns.1]
      rw [e]
      split
      · rw [fixed_length]; omega
      · have := hpart t
        rw [List.length_append, fixed_length]; omega
    · rw [fieldW_val _ _ _ _ _ h11 hns]
      have := valW_mx f.kind (asmW v flex f.sub (wrs v flex f.sub) (usuals f.sub)) (f.nul v t) flex t (mxP f.sub) (fun _ => hpart)
      omega
mutual
theorem wr_mx (v : Int) (flex : Bool) : ∀ (f : F) (t : T), (wr v flex f t).length ≤ mxF f
  | .mk _ _ _ _ _ _ _ sub => fun t => field_mx v flex _ (wrs_mx v flex sub) t
theorem wrs_mx (v : Int) (flex : Bool) : ∀ (fs : List F) (i : Nat) f w, fs[i]? = some f → (wrs v flex fs)[i]? = some w → ∀ t, (w t).length ≤ mxF f
  | [] => fun i f w h => by simp at h
  | a :: fs => fun i f w h1 h2 t => by
    cases i with
    | zero =>
      simp only [wrs, List.getElem?_cons_zero, Option.some.injEq] at h1 h2
      subst h1; subst h2
      exact wr_mx v flex a t
    | succ i => exact wrs_mx v flex fs i f w (by simpa using h1) (by simpa [wrs] using h2) t
end
theorem part_mx (v : Int) (flex : Bool) (fs : List F) (t : T) : (part v flex fs t).length ≤ mxP fs := asmW_mx v flex fs (wrs v flex fs) (usuals fs) t (wrs_mx v flex fs)
end Go.Proofs.YtpknjenihcfhlaaDoor.Kz
