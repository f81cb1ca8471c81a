
/-
  WHAT IS ON THE WIRE: formats of one version of a message, what is written of a value, what is read of bytes. What is written is read as the same; what is read of a part is read of the whole. Plain Lean: no program here.
-/
namespace Go.Proofs.YtopfghmpaobnnaaDoor.Wire
set_option linter.constructorNameAsVariable false
set_option linter.unusedVariables false
set_option linter.unusedSimpArgs false

abbrev B := List UInt8

/-- The kinds of leaves. -/
inductive K where
  | bool | i8 | i16 | i32 | i64 | u16 | f64 | uuid | str | bytes
  deriving DecidableEq, Repr

/-- A format: where its cells lie is told by 'o'; of a list how many cells an element has. -/
inductive F where
  | nil
  | leaf (o : Nat) (k : K) (null : Bool) (rest : F)
  | list (o sz : Nat) (null : Bool) (e rest : F)
  | tags (o : Nat) (rest : F)
  deriving DecidableEq, Repr

/-- What is said. -/
inductive V where
  | u
  | i (n : Int)
  | b (x : Bool)
  | s (bs : B)
  | nul
  | l (vs : List V)
  | t (ts : List (Nat × B))
  | c (v w : V)
  deriving Inhabited

/-- A number in so many octets, the highest one first. -/
def be : Nat → Int → B
  | 0, _ => []
  | s + 1, n => UInt8.ofNat ((n / 256 ^ s) % 256).toNat :: be s n
def nat : B → Nat
  | [] => 0
  | b :: r => b.toNat * 256 ^ r.length + nat r
/-- A number without a sign as one with it. -/
def sgn (s : Nat) (n : Nat) : Int := if n < 2 ^ (8 * s - 1) then n else (n : Int) - 2 ^ (8 * s)
/-- The first so many octets. -/
def cut (n : Nat) (bs : B) : Option (B × B) := if n ≤ bs.length then some (bs.take n, bs.drop n) else none
def rdI (s : Nat) (bs : B) : Option (Int × B) := (cut s bs).map fun (h, r) => (sgn s (nat h), r)
def rdU (s : Nat) (bs : B) : Option (Int × B) := (cut s bs).map fun (h, r) => ((nat h : Int), r)

/-- A number in groups of seven bits. -/
def uv (n : Nat) : B := if h : n < 128 then [UInt8.ofNat n] else UInt8.ofNat (n % 128 + 128) :: uv (n / 128)
termination_by n
decreasing_by omega
def uvd : Nat → B → Option (Nat × B)
  | _, [] => none
  | 0, b :: r => if b.toNat ≤ 15 then some (b.toNat, r) else none
  | k + 1, b :: r => if b.toNat < 128 then some (b.toNat, r) else (uvd k r).map fun (m, r') => (b.toNat - 128 + 128 * m, r')
def rdV (bs : B) : Option (Nat × B) := uvd 4 bs

/-- A count ahead of something: in s octets, or one more in groups. -/
def cnt (flex : Bool) (s n : Nat) : B := if flex then uv (n + 1) else be s n
def cnt0 (flex : Bool) (s : Nat) : B := if flex then [0] else be s (-1)
def rdC (flex : Bool) (s : Nat) (bs : B) : Option (Int × B) := if flex then (rdV bs).map fun (n, r) => ((n : Int) - 1, r) else rdI s bs

def K.size : K → Nat
  | .bool | .i8 => 1
  | .i16 | .u16 => 2
  | .i32 => 4
  | .i64 | .f64 => 8
  | .uuid => 16
  | .str => 2
  | .bytes => 4
/-- How many cells. -/
def K.wide : K → Nat
  | .uuid => 16
  | _ => 1

def encK (flex : Bool) (k : K) (v : V) : B :=
  match k, v with
  | .bool, .b x => [if x then 1 else 0]
  | .uuid, .s bs => bs
  | .str, .s bs => cnt flex 2 bs.length ++ bs
  | .str, _ => cnt0 flex 2
  | .bytes, .s bs => cnt flex 4 bs.length ++ bs
  | .bytes, _ => cnt0 flex 4
  | k, .i n => be k.size n
  | _, _ => []

/-- So many octets, of which none may be below 0. -/
def rdS (l : Int) (bs : B) : Option (B × B) := if l < 0 then none else cut l.toNat bs

def decK (flex : Bool) (k : K) (null : Bool) (bs : B) : Option (V × B) :=
  match k with
  | .bool => (cut 1 bs).map fun (h, r) => (.b (h != [0]), r)
  | .uuid => (cut 16 bs).map fun (h, r) => (.s h, r)
  | .str => (rdC flex 2 bs).bind fun (l, r) => if null && l < 0 then some (.nul, r) else (rdS l r).map fun (h, r) => (.s h, r)
  | .bytes => (rdC flex 4 bs).bind fun (l, r) => if null && l < 0 then some (.nul, r) else if l = -1 then some (.s [], r) else (rdS l r).map fun (h, r) => (.s h, r)
  | .u16 => (rdU 2 bs).map fun (n, r) => (.i n, r)
  | .f64 => (rdU 8 bs).map fun (n, r) => (.i n, r)
  | k => (rdI k.size bs).map fun (n, r) => (.i n, r)

/-- A list's length; it may not be more than the octets that are left. -/
def rdL (flex : Bool) (bs : B) : Option (Int × B) :=
  (if flex then (rdV bs).map fun (n, r) => (sgn 4 (((sgn 4 n) - 1) % 4294967296).toNat, r) else rdI 4 bs).bind fun (l, r) => if (r.length : Int) < l then none else some (l, r)

/-- So many, one behind the other. -/
def many (d : B → Option (V × B)) : Nat → B → Option (List V × B)
  | 0, bs => some ([], bs)
  | n + 1, bs => (d bs).bind fun (v, r) => (many d n r).map fun (vs, r) => (v :: vs, r)

/-- A tag set among tags by rising numbers. -/
def put (k : Nat) (v : B) : List (Nat × B) → List (Nat × B)
  | [] => [(k, v)]
  | (k', v') :: r => if k < k' then (k, v) :: (k', v') :: r else if k = k' then (k, v) :: r else (k', v') :: put k v r
def encT (ts : List (Nat × B)) : B := ts.flatMap fun (k, v) => uv k ++ (uv v.length ++ v)
def decT : Nat → List (Nat × B) → B → Option (List (Nat × B) × B)
  | 0, ts, bs => some (ts, bs)
  | n + 1, ts, bs => (rdV bs).bind fun (k, r) => (rdV r).bind fun (l, r) => (cut l r).bind fun (h, r) => decT n (put k h ts) r

def enc (flex : Bool) : F → V → B
  | .nil, _ => []
  | .leaf _ k _ r, .c v w => encK flex k v ++ enc flex r w
  | .list _ _ _ e r, .c v w => (match v with
    | .l vs => cnt flex 4 vs.length ++ vs.flatMap (enc flex e)
    | _ => cnt0 flex 4) ++ enc flex r w
  | .tags _ r, .c (.t ts) w => uv ts.length ++ encT ts ++ enc flex r w
  | _, _ => []

def dec (flex : Bool) : F → B → Option (V × B)
  | .nil, bs => some (.u, bs)
  | .leaf _ k n r, bs => (decK flex k n bs).bind fun (v, bs) => (dec flex r bs).map fun (w, bs) => (.c v w, bs)
  | .list _ _ n e r, bs => (rdL flex bs).bind fun (l, bs) => (if n && l < 0 then some (V.nul, bs) else (many (dec flex e) l.toNat bs).map fun (vs, bs) => (V.l vs, bs)).bind fun (v, bs) => (dec flex r bs).map fun (w, bs) => (.c v w, bs)
  | .tags _ r, bs => (rdV bs).bind fun (n, bs) => (decT n [] bs).bind fun (ts, bs) => (dec flex r bs).map fun (w, bs) => (.c (.t ts) w, bs)

/-- Elements of lists are written in an octet at least. -/
def F.good : F → Bool
  | .nil => true
  | .leaf _ _ _ r => r.good
  | .list _ _ _ e r => e != .nil && e.good && r.good
  | .tags _ r => r.good

def inI (s : Nat) (n : Int) : Prop := -2 ^ (8 * s - 1) ≤ n ∧ n < 2 ^ (8 * s - 1)
def okK (flex : Bool) (k : K) (null : Bool) (v : V) : Prop :=
  match k, v with
  | .bool, .b _ => True
  | .uuid, .s bs => bs.length = 16
  | .str, .s bs => if flex then bs.length + 1 < 2 ^ 32 else bs.length < 2 ^ 15
  | .str, .nul => null = true
  | .bytes, .s bs => if flex then bs.length + 1 < 2 ^ 32 else bs.length < 2 ^ 31
  | .bytes, .nul => null = true
  | .u16, .i n => 0 ≤ n ∧ n < 2 ^ 16
  | .f64, .i n => 0 ≤ n ∧ n < 2 ^ 64
  | .i8, .i n => inI 1 n
  | .i16, .i n => inI 2 n
  | .i32, .i n => inI 4 n
  | .i64, .i n => inI 8 n
  | _, _ => False
/-- Tags by rising numbers, above a number. -/
def okT : Nat → List (Nat × B) → Prop
  | _, [] => True
  | m, (k, v) :: r => m ≤ k ∧ k < 2 ^ 32 ∧ v.length < 2 ^ 32 ∧ okT (k + 1) r
def ok (flex : Bool) : F → V → Prop
  | .nil, .u => True
  | .leaf _ k n r, .c v w => okK flex k n v ∧ ok flex r w
  | .list _ _ n e r, .c v w => (match v with
    | .l vs => vs.length < 2 ^ 31 ∧ ∀ x ∈ vs, ok flex e x
    | .nul => n = true
    | _ => False) ∧ ok flex r w
  | .tags _ r, .c (.t ts) w => okT 0 ts ∧ ts.length < 2 ^ 32 ∧ ok flex r w
  | _, _ => False

/-- A format without its places. -/
def F.strip : F → F
  | .nil => .nil
  | .leaf _ k n r => .leaf 0 k n r.strip
  | .list _ _ n e r => .list 0 0 n e.strip r.strip
  | .tags _ r => .tags 0 r.strip
end Go.Proofs.YtopfghmpaobnnaaDoor.Wire

