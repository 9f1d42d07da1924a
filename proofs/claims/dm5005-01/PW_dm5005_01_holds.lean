import PyProof.Rows.All
import Wide.All
import OpenK.AllK
import Wide.FinOn
import PySem.Challenge.RW_dm5005_01
set_option Elab.async false
/-! dm5005-01: the head once (open_top), a contract for each called def (Con), the plain law by kinds of letters, the law itself walked last (law_holds). Printed by a small program out of the parts that each section names. -/
section -- H5005
open PySem PySem.W PyProof.Rows
namespace Mine
set_option maxRecDepth 100000 in
set_option maxHeartbeats 0 in
open_top hd for PySem.Challenge.rw_dm5005_01
end Mine
end
section -- PureA
/-! The plain law, over letters of any kind: what the three readers yield, what the look says. -/
namespace Mine

/-- what a letter is -/
inductive K where
  | E | X | N | R | S | W | V | B | L | U | P | T
  deriving DecidableEq

def K.brk : K → Bool
  | .N | .R | .B | .L => true
  | _ => false
def K.spc : K → Bool
  | .N | .R | .S | .W | .V | .B | .L => true
  | _ => false
def K.kept : K → Bool
  | .E | .V | .B | .T => false
  | _ => true
def K.isE : K → Bool
  | .E => true
  | _ => false
def K.isX : K → Bool
  | .X => true
  | _ => false
def K.isN : K → Bool
  | .N => true
  | _ => false
def K.isR : K → Bool
  | .R => true
  | _ => false
def K.isS : K → Bool
  | .S => true
  | _ => false
def K.isU : K → Bool
  | .U => true
  | _ => false
/-- not white (the law's own four) and not = -/
def K.badEnd : K → Bool
  | .E | .S | .W | .V => true
  | _ => false
/-- the law's line ends -/
def K.ends : K → Bool
  | .R | .B | .L => true
  | _ => false
/-- the law's signs that a written text may not have -/
def K.noWrite : K → Bool
  | .E | .R | .V | .B | .L | .T => true
  | _ => false

section
variable {α : Type} (k : α → K)

def linesA : List α → List α → List (List α)
  | cur, [] => if cur.isEmpty then [] else [cur]
  | cur, c :: r =>
    if (k c).brk then
      cur :: (match r with
        | d :: r' => if (k c).isR && (k d).isN then linesA [] r' else linesA [] (d :: r')
        | [] => [])
    else linesA (cur ++ [c]) r

def rstripA (l : List α) : List α := (l.reverse.dropWhile fun c => (k c).spc).reverse

/-- the while of decode, from a place within the line on -/
def decT (nl : α) (uq : α → α → α) : List α → List α
  | [] => []
  | c :: r =>
    if (k c).isE then
      match r with
      | [] => []
      | [a] => c :: decT nl uq [a]
      | a :: b :: r' =>
        if (k a).isX && (k b).isX then uq a b :: (if r'.isEmpty then [nl] else decT nl uq r')
        else c :: decT nl uq (a :: b :: r')
    else c :: (if r.isEmpty then [nl] else decT nl uq r)

def decLine (nl : α) (uq : α → α → α) (l : List α) : List α :=
  let l' := rstripA k l
  if l'.isEmpty then [nl] else decT k nl uq l'

def lastIs (p : K → Bool) (l : List α) : Bool := match l.getLast? with
  | some c => p (k c)
  | none => false

def decA (nl : α) (uq : α → α → α) (t : List α) : List α :=
  let d := (linesA k [] t).flatMap (decLine k nl uq)
  if t.isEmpty then [] else
  if !(lastIs k K.isN t || lastIs k K.isR t) && lastIs k K.isN d then d.dropLast else d

def escA : List α → Bool
  | c :: a :: b :: r => ((k c).isE && (k a).isX && (k b).isX) || escA (a :: b :: r)
  | _ => false

/-- one pass of the pattern over a text of three letters or fewer -/
def hdrA (sp : α) (uq : α → α → α) (t : List α) : List α :=
  match t.map fun c => if (k c).isU then sp else c with
  | [c, a, b] => if (k c).isE && (k a).isX && (k b).isX then [uq a b] else [c, a, b]
  | y => y

def splitA : List α → List (List α)
  | [] => [[]]
  | c :: r => if (k c).isN then [] :: splitA r else match splitA r with
    | [] => [[c]]
    | l :: ls => (c :: l) :: ls

def readA (t : List α) : Bool :=
  t.all (fun c => !(k c).ends) && (splitA k t).all (fun row => !lastIs k K.badEnd row) && !escA k t

def writA (t : List α) (len : Nat) : Bool :=
  t.all (fun c => !(k c).noWrite) && (splitA k t).all (fun row => decide (row.length ≤ len) && !lastIs k K.isS row)

def headA (t : List α) : Bool := t.all (fun c => !(k c).isU) && !escA k t

def transA (eq : α) (q1 q2 : α → α) (t : List α) : List α := t.flatMap fun c => if (k c).kept then [c] else [eq, q1 c, q2 c]

def isEAt (l : List α) (i : Nat) : Bool := match l[i]? with
  | some c => (k c).isE
  | none => false

def chunkA (eq : α) (m : Nat) : Nat → List α → List (List α) × List α
  | 0, l => ([], l)
  | fuel + 1, l =>
    if l.length ≤ m then ([], l) else
    let (p, d) := if isEAt k l (m - 3) then (l.take (m - 2), m - 3) else if isEAt k l (m - 2) then (l.take (m - 1), m - 2) else (l.take (m - 1) ++ [eq], m - 1)
    let (ps, z) := chunkA eq m fuel (l.drop d)
    (p :: ps, z)

/-- the pieces of one line -/
def lineA (eq nl : α) (q1 q2 : α → α) (m : Nat) (l : List α) : List (List α) :=
  let (ps, z) := chunkA k eq m l.length l
  match l.getLast? with
  | some c =>
    if (k c).isS then
      -- room = start - laststart = m + 1 - z.length
      ps ++ [z.dropLast ++ (if z.length + 2 ≤ m then [eq, q1 c, q2 c] else if z.length + 1 == m then [c, eq, nl] else [eq, nl, eq, q1 c, q2 c])]
    else ps ++ [z]
  | none => ps ++ [z]

def joinA (nl : α) : List (List α) → List α
  | [] => []
  | [x] => x
  | x :: r => x ++ nl :: joinA nl r

def bodyA (eq nl : α) (q1 q2 : α → α) (m : Nat) (t : List α) : List α :=
  let b := transA k eq q1 q2 t
  let ps := (linesA k [] b).flatMap (lineA k eq nl q1 q2 m)
  joinA nl (if lastIs k K.isN b || lastIs k K.isR b then ps ++ [[]] else ps)
end

/-! Letters by their place alone. -/
inductive Tk where
  | o (i : Nat)
  | kk
  | nl | eq | sp
  | q1 (i : Nat) | q2 (i : Nat) | s1 | s2
  | uq (i j : Nat)
  deriving DecidableEq

def kT (ks : List K) : Tk → K
  | .o i => ks.getD i .P
  | .kk => .P
  | .nl => .N
  | .eq => .E
  | .sp => .S
  | .q1 _ | .q2 _ | .s1 | .s2 => .P
  | .uq _ _ => .P
def q1T : Tk → Tk
  | .o i => .q1 i
  | _ => .s1
def q2T : Tk → Tk
  | .o i => .q2 i
  | _ => .s2
def uqT : Tk → Tk → Tk
  | .o i, .o j => .uq i j
  | _, _ => .s1

/-- at some place a letter that cannot be the other -/
def partT (ks : List K) : List Tk → List Tk → Bool
  | [], [] => false
  | a :: r, b :: r' => (match a, b with
    | .nl, b => !(kT ks b).isN
    | .sp, b => !(kT ks b).isS
    | .eq, b => !(kT ks b).isE
    | _, _ => false) || partT ks r r'
  | _, _ => true

/-- letter for letter the same: the line end that was made is the line end that was there -/
def sameT (ks : List K) : List Tk → List Tk → Bool
  | [], [] => true
  | a :: r, b :: r' => (decide (a = b) || (match a with
    | .nl => (kT ks b).isN
    | _ => false)) && sameT ks r r'
  | _, _ => false

def toksOf (n : Nat) : List Tk := (List.range n).map Tk.o

def okDec (ks : List K) : Bool :=
  let t := toksOf ks.length
  let d := decA (kT ks) .nl uqT t
  if readA (kT ks) t then sameT ks d t else partT ks d t
def okHdr (ks : List K) : Bool :=
  let t := toksOf ks.length
  let d := hdrA (kT ks) .sp uqT t
  if headA (kT ks) t then sameT ks d t else partT ks d t
def okBody (m : Nat) (ks : List K) : Bool :=
  let t := Tk.kk :: Tk.kk :: toksOf ks.length
  let d := bodyA (kT ks) .eq .nl q1T q2T m t
  if writA (kT ks) t m then sameT ks d t else partT ks d t

def wordsOf (ks : List K) : Nat → List (List K)
  | 0 => [[]]
  | n + 1 => (wordsOf ks n).flatMap fun w => ks.map fun c => c :: w

abbrev kDs : List K := [.E, .X, .N, .R, .S, .B, .P]
abbrev kHs : List K := [.E, .X, .U, .P]
abbrev kBs : List K := [.E, .N, .R, .S, .L, .B, .T, .P]

set_option maxRecDepth 100000 in
theorem dec_all0 : (wordsOf kDs 0).all okDec = true := by decide +kernel
set_option maxRecDepth 100000 in
theorem dec_all1 : (wordsOf kDs 1).all okDec = true := by decide +kernel
set_option maxRecDepth 100000 in
theorem dec_all2 : (wordsOf kDs 2).all okDec = true := by decide +kernel
set_option maxRecDepth 100000 in
theorem dec_all3 : (wordsOf kDs 3).all okDec = true := by decide +kernel
set_option maxRecDepth 100000 in
theorem hdr_all0 : (wordsOf kHs 0).all okHdr = true := by decide +kernel
set_option maxRecDepth 100000 in
theorem hdr_all1 : (wordsOf kHs 1).all okHdr = true := by decide +kernel
set_option maxRecDepth 100000 in
theorem hdr_all2 : (wordsOf kHs 2).all okHdr = true := by decide +kernel
set_option maxRecDepth 100000 in
theorem hdr_all3 : (wordsOf kHs 3).all okHdr = true := by decide +kernel
set_option maxRecDepth 100000 in
theorem body4_all0 : (wordsOf kBs 0).all (okBody 4) = true := by decide +kernel
set_option maxRecDepth 100000 in
theorem body4_all1 : (wordsOf kBs 1).all (okBody 4) = true := by decide +kernel
set_option maxRecDepth 100000 in
theorem body4_all2 : (wordsOf kBs 2).all (okBody 4) = true := by decide +kernel
set_option maxRecDepth 100000 in
theorem body4_all3 : (wordsOf kBs 3).all (okBody 4) = true := by decide +kernel
set_option maxRecDepth 100000 in
theorem body5_all0 : (wordsOf kBs 0).all (okBody 5) = true := by decide +kernel
set_option maxRecDepth 100000 in
theorem body5_all1 : (wordsOf kBs 1).all (okBody 5) = true := by decide +kernel
set_option maxRecDepth 100000 in
theorem body5_all2 : (wordsOf kBs 2).all (okBody 5) = true := by decide +kernel
set_option maxRecDepth 100000 in
theorem body5_all3 : (wordsOf kBs 3).all (okBody 5) = true := by decide +kernel
end Mine
end
section -- PureB
namespace Mine
section
variable {α β : Type} {k : α → K} {k' : β → K} {f : α → β}

theorem linesA_map : ∀ (l cur : List α), (∀ x ∈ l, k' (f x) = k x) → linesA k' (cur.map f) (l.map f) = (linesA k cur l).map (List.map f)
  | [], cur, _ => by
    simp only [List.map_nil, linesA, List.isEmpty_map]
    split <;> rfl
  | [c], cur, h => by
    have hc := h c (by simp)
    simp only [List.map_cons, List.map_nil, linesA, hc]
    split
    · simp
    · simp
  | c :: d :: r, cur, h => by
    have hc := h c (by simp)
    have hd := h d (by simp)
    have i1 := linesA_map r [] (fun x hx => h x (by simp [hx]))
    have i2 := linesA_map (d :: r) [] (fun x hx => h x (List.mem_cons_of_mem _ hx))
    have i3 := linesA_map (d :: r) (cur ++ [c]) (fun x hx => h x (List.mem_cons_of_mem _ hx))
    rw [List.map_cons, List.map_cons]
    unfold linesA
    simp only [hc, hd]
    split
    · split
      · simp only [List.map_nil] at i1
        simp [i1]
      · simp only [List.map_nil, List.map_cons] at i2
        simp [i2]
    · simp only [List.map_append, List.map_cons, List.map_nil] at i3
      exact i3

theorem linesA_mem : ∀ (l cur : List α) (row : List α), row ∈ linesA k cur l → ∀ x ∈ row, x ∈ cur ∨ x ∈ l
  | [], cur, row, h, x, hx => by
    simp only [linesA] at h
    split at h
    · simp at h
    · simp only [List.mem_singleton] at h; subst h; exact .inl hx
  | [c], cur, row, h, x, hx => by
    simp only [linesA] at h
    split at h
    · simp only [List.mem_singleton] at h; subst h; exact .inl hx
    · rcases linesA_mem [] (cur ++ [c]) row h x hx with q | q
      · rcases List.mem_append.mp q with q | q
        · exact .inl q
        · exact .inr q
      · simp at q
  | c :: d :: r, cur, row, h, x, hx => by
    unfold linesA at h
    split at h
    · rcases List.mem_cons.mp h with rfl | h
      · exact .inl hx
      · dsimp only at h
        split at h
        · rcases linesA_mem r [] row h x hx with q | q
          · simp at q
          · exact .inr (by simp [q])
        · rcases linesA_mem (d :: r) [] row h x hx with q | q
          · simp at q
          · exact .inr (List.mem_cons_of_mem _ q)
    · rcases linesA_mem (d :: r) (cur ++ [c]) row h x hx with q | q
      · rcases List.mem_append.mp q with q | q
        · exact .inl q
        · exact .inr (by simp at q; simp [q])
      · exact .inr (List.mem_cons_of_mem _ q)

theorem dropWhile_map' (p : α → Bool) (p' : β → Bool) : ∀ (l : List α), (∀ x ∈ l, p' (f x) = p x) → (l.map f).dropWhile p' = (l.dropWhile p).map f
  | [], _ => rfl
  | c :: r, h => by
    have hc := h c (by simp)
    have ih := dropWhile_map' p p' r (fun x hx => h x (by simp [hx]))
    simp only [List.map_cons, List.dropWhile_cons, hc]
    split
    · exact ih
    · rfl

theorem rstripA_map (l : List α) (h : ∀ x ∈ l, k' (f x) = k x) : rstripA k' (l.map f) = (rstripA k l).map f := by
  unfold rstripA
  rw [← List.map_reverse, dropWhile_map' (f := f) (fun c => (k c).spc) (fun c => (k' c).spc) l.reverse (fun x hx => by rw [h x (List.mem_reverse.mp hx)]), List.map_reverse]
theorem rstripA_mem (l : List α) (x : α) (h : x ∈ rstripA k l) : x ∈ l := by
  unfold rstripA at h
  exact List.mem_reverse.mp ((List.dropWhile_sublist _).mem (List.mem_reverse.mp h))

theorem lastIs_map (p : K → Bool) (l : List α) (h : ∀ x ∈ l, p (k' (f x)) = p (k x)) : lastIs k' p (l.map f) = lastIs k p l := by
  unfold lastIs
  rw [List.getLast?_map]
  cases e : l.getLast? with
  | none => rfl
  | some c => exact h c (List.mem_of_getLast? e)

theorem decT_map {nl : α} {nl' : β} {uq : α → α → α} {uq' : β → β → β} (hnl : f nl = nl') : ∀ (l : List α), (∀ x ∈ l, k' (f x) = k x) → (∀ a ∈ l, ∀ b ∈ l, f (uq a b) = uq' (f a) (f b)) →
    decT k' nl' uq' (l.map f) = (decT k nl uq l).map f
  | [], _, _ => rfl
  | [c], h, _ => by
    have hc := h c (by simp)
    simp only [List.map_cons, List.map_nil, decT, hc]
    split
    · rfl
    · simp [hnl]
  | [c, a], h, hu => by
    have hc := h c (by simp)
    have i1 := decT_map (uq := uq) (uq' := uq') hnl [a] (fun x hx => h x (List.mem_cons_of_mem _ hx)) (fun x hx y hy => hu x (List.mem_cons_of_mem _ hx) y (List.mem_cons_of_mem _ hy))
    simp only [List.map_cons, List.map_nil] at i1 ⊢
    unfold decT
    simp only [hc]
    split
    · rw [List.map_cons, i1]
    · simp only [List.isEmpty_cons, Bool.false_eq_true, if_false, List.map_cons]
      rw [i1]
  | c :: a :: b :: r, h, hu => by
    have hc := h c (by simp)
    have ha := h a (by simp)
    have hb := h b (by simp)
    have i1 := decT_map (uq := uq) (uq' := uq') hnl r (fun x hx => h x (by simp [hx])) (fun x hx y hy => hu x (by simp [hx]) y (by simp [hy]))
    have i2 := decT_map (uq := uq) (uq' := uq') hnl (a :: b :: r) (fun x hx => h x (List.mem_cons_of_mem _ hx)) (fun x hx y hy => hu x (List.mem_cons_of_mem _ hx) y (List.mem_cons_of_mem _ hy))
    have e := hu a (by simp) b (by simp)
    simp only [List.map_cons] at i2 ⊢
    unfold decT
    simp only [hc, ha, hb]
    split
    · split
      · rw [List.map_cons, e]
        congr 1
        cases r with
        | nil => simp [hnl]
        | cons x y => simp only [List.map_cons, List.isEmpty_cons, Bool.false_eq_true, if_false] at i1 ⊢; exact i1
      · rw [List.map_cons, i2]
    · simp only [List.isEmpty_cons, Bool.false_eq_true, if_false, List.map_cons]
      rw [i2]

theorem decT_mem {nl : α} {uq : α → α → α} : ∀ (l : List α) (x : α), x ∈ decT k nl uq l → x ∈ l ∨ x = nl ∨ ∃ a ∈ l, ∃ b ∈ l, (k a).isX = true ∧ (k b).isX = true ∧ x = uq a b
  | [], _, h => by simp [decT] at h
  | [c], x, h => by
    simp only [decT] at h
    split at h
    · simp at h
    · simp at h
      rcases h with rfl | rfl
      · simp
      · simp
  | [c, a], x, h => by
    unfold decT at h
    split at h
    · dsimp only at h
      rcases List.mem_cons.mp h with rfl | h
      · simp
      · rcases decT_mem [a] x h with q | q | ⟨a', ha, b', hb, q⟩
        · exact .inl (List.mem_cons_of_mem _ q)
        · exact .inr (.inl q)
        · exact .inr (.inr ⟨a', List.mem_cons_of_mem _ ha, b', List.mem_cons_of_mem _ hb, q⟩)
    · rcases List.mem_cons.mp h with rfl | h
      · simp
      · simp only [List.isEmpty_cons, Bool.false_eq_true, if_false] at h
        rcases decT_mem [a] x h with q | q | ⟨a', ha, b', hb, q⟩
        · exact .inl (List.mem_cons_of_mem _ q)
        · exact .inr (.inl q)
        · exact .inr (.inr ⟨a', List.mem_cons_of_mem _ ha, b', List.mem_cons_of_mem _ hb, q⟩)
  | c :: a :: b :: r, x, h => by
    have up (h : x ∈ decT k nl uq (a :: b :: r)) : x ∈ c :: a :: b :: r ∨ x = nl ∨ ∃ a₁ ∈ c :: a :: b :: r, ∃ b₁ ∈ c :: a :: b :: r, (k a₁).isX = true ∧ (k b₁).isX = true ∧ x = uq a₁ b₁ := by
      rcases decT_mem (nl := nl) (uq := uq) (a :: b :: r) x h with q | q | ⟨a', ha, b', hb, q⟩
      · exact .inl (List.mem_cons_of_mem c q)
      · exact .inr (.inl q)
      · exact .inr (.inr ⟨a', List.mem_cons_of_mem _ ha, b', List.mem_cons_of_mem _ hb, q⟩)
    unfold decT at h
    split at h
    · dsimp only at h
      split at h
      · rename_i hx
        rw [Bool.and_eq_true] at hx
        rcases List.mem_cons.mp h with rfl | h
        · exact .inr (.inr ⟨a, by simp, b, by simp, hx.1, hx.2, rfl⟩)
        · split at h
          · simp at h; exact .inr (.inl h)
          · rcases decT_mem r x h with q | q | ⟨a', ha, b', hb, q⟩
            · exact .inl (by simp [q])
            · exact .inr (.inl q)
            · exact .inr (.inr ⟨a', by simp [ha], b', by simp [hb], q⟩)
      · rcases List.mem_cons.mp h with rfl | h
        · simp
        · exact up h
    · rcases List.mem_cons.mp h with rfl | h
      · simp
      · simp only [List.isEmpty_cons, Bool.false_eq_true, if_false] at h
        exact up h

theorem decLine_map {nl : α} {nl' : β} {uq : α → α → α} {uq' : β → β → β} (hnl : f nl = nl') (l : List α) (h : ∀ x ∈ l, k' (f x) = k x) (hu : ∀ a ∈ l, ∀ b ∈ l, f (uq a b) = uq' (f a) (f b)) :
    decLine k' nl' uq' (l.map f) = (decLine k nl uq l).map f := by
  unfold decLine
  dsimp only
  rw [rstripA_map l h, List.isEmpty_map]
  split
  · simp [hnl]
  · exact decT_map hnl _ (fun x hx => h x (rstripA_mem l x hx)) (fun a ha b hb => hu a (rstripA_mem l a ha) b (rstripA_mem l b hb))

theorem flatMap_map' {γ δ : Type} (g : γ → List α) (g' : δ → List β) (e : γ → δ) : ∀ (l : List γ), (∀ x ∈ l, g' (e x) = (g x).map f) → (l.map e).flatMap g' = (l.flatMap g).map f
  | [], _ => rfl
  | c :: r, h => by
    simp only [List.map_cons, List.flatMap_cons, List.map_append]
    rw [h c (by simp), flatMap_map' g g' e r (fun x hx => h x (by simp [hx]))]

theorem decA_map {nl : α} {nl' : β} {uq : α → α → α} {uq' : β → β → β} (hnl : f nl = nl') (t : List α) (h : ∀ x ∈ t, k' (f x) = k x) (hu : ∀ a ∈ t, ∀ b ∈ t, f (uq a b) = uq' (f a) (f b))
    (hkn : (k' nl').isN = (k nl).isN) (hku : ∀ a ∈ t, ∀ b ∈ t, (k a).isX = true → (k b).isX = true → (k' (uq' (f a) (f b))).isN = (k (uq a b)).isN) :
    decA k' nl' uq' (t.map f) = (decA k nl uq t).map f := by
  have hl : linesA k' [] (t.map f) = (linesA k [] t).map (List.map f) := linesA_map (f := f) t [] h
  have hm : ∀ row ∈ linesA k [] t, ∀ x ∈ row, x ∈ t := fun row hr x hx => (linesA_mem t [] row hr x hx).elim (fun q => by simp at q) id
  have hd : (linesA k' [] (t.map f)).flatMap (decLine k' nl' uq') = ((linesA k [] t).flatMap (decLine k nl uq)).map f := by
    rw [hl]
    exact flatMap_map' _ _ _ _ (fun row hr => decLine_map hnl row (fun x hx => h x (hm row hr x hx)) (fun a ha b hb => hu a (hm row hr a ha) b (hm row hr b hb)))
  have hN : lastIs k' K.isN ((linesA k' [] (t.map f)).flatMap (decLine k' nl' uq')) = lastIs k K.isN ((linesA k [] t).flatMap (decLine k nl uq)) := by
    rw [hd]
    refine lastIs_map _ _ (fun x hx => ?_)
    obtain ⟨row, hr, hx⟩ := List.mem_flatMap.mp hx
    unfold decLine at hx
    dsimp only at hx
    split at hx
    · rw [List.mem_singleton] at hx; subst hx; rw [hnl]; exact hkn
    · rcases decT_mem _ x hx with q | q | ⟨a, ha, b, hb, xa, xb, q⟩
      · rw [h x (hm row hr x (rstripA_mem _ _ q))]
      · subst q; rw [hnl]; exact hkn
      · subst q
        have ha' := hm row hr a (rstripA_mem _ _ ha)
        have hb' := hm row hr b (rstripA_mem _ _ hb)
        rw [hu a ha' b hb']
        exact hku a ha' b hb' xa xb
  have e1 : lastIs k' K.isN (t.map f) = lastIs k K.isN t := lastIs_map _ _ (fun x hx => by rw [h x hx])
  have e2 : lastIs k' K.isR (t.map f) = lastIs k K.isR t := lastIs_map _ _ (fun x hx => by rw [h x hx])
  unfold decA
  dsimp only
  rw [List.isEmpty_map, hN, e1, e2, hd]
  split
  · rfl
  · split
    · rw [List.map_dropLast]
    · rfl

theorem escA_map : ∀ (l : List α), (∀ x ∈ l, k' (f x) = k x) → escA k' (l.map f) = escA k l
  | [], _ => rfl
  | [_], _ => rfl
  | [_, _], _ => rfl
  | c :: a :: b :: r, h => by
    have ih := escA_map (a :: b :: r) (fun x hx => h x (List.mem_cons_of_mem _ hx))
    simp only [List.map_cons] at ih
    simp only [List.map_cons, escA, ih, h c (by simp), h a (by simp), h b (by simp)]

theorem splitA_map : ∀ (l : List α), (∀ x ∈ l, k' (f x) = k x) → splitA k' (l.map f) = (splitA k l).map (List.map f)
  | [], _ => rfl
  | c :: r, h => by
    have ih := splitA_map r (fun x hx => h x (List.mem_cons_of_mem _ hx))
    simp only [List.map_cons, splitA, ih, h c (by simp)]
    split
    · rfl
    · cases splitA k r <;> rfl
theorem splitA_mem : ∀ (l row : List α), row ∈ splitA k l → ∀ x ∈ row, x ∈ l
  | [], row, h, x, hx => by simp [splitA] at h; subst h; simp at hx
  | c :: r, row, h, x, hx => by
    simp only [splitA] at h
    split at h
    · rcases List.mem_cons.mp h with rfl | h
      · simp at hx
      · exact List.mem_cons_of_mem _ (splitA_mem r row h x hx)
    · cases e : splitA k r with
      | nil =>
        rw [e] at h
        simp at h
        subst h
        simp at hx
        simp [hx]
      | cons l ls =>
        rw [e] at h
        rcases List.mem_cons.mp h with rfl | h
        · rcases List.mem_cons.mp hx with rfl | hx
          · simp
          · exact List.mem_cons_of_mem _ (splitA_mem r l (e ▸ List.mem_cons_self ..) x hx)
        · exact List.mem_cons_of_mem _ (splitA_mem r row (e ▸ List.mem_cons_of_mem _ h) x hx)

theorem all_map' (p : α → Bool) (p' : β → Bool) : ∀ (l : List α), (∀ x ∈ l, p' (f x) = p x) → (l.map f).all p' = l.all p
  | [], _ => rfl
  | c :: r, h => by
    simp only [List.map_cons, List.all_cons, h c (by simp), all_map' p p' r (fun x hx => h x (by simp [hx]))]

theorem readA_map (t : List α) (h : ∀ x ∈ t, k' (f x) = k x) : readA k' (t.map f) = readA k t := by
  unfold readA
  rw [escA_map t h, splitA_map t h, all_map' (f := f) (fun c => !(k c).ends) _ t (fun x hx => by rw [h x hx]),
    all_map' (f := List.map f) (fun row => !lastIs k K.badEnd row) _ (splitA k t) (fun row hr => by rw [lastIs_map _ _ (fun x hx => by rw [h x (splitA_mem t row hr x hx)])])]
theorem writA_map (t : List α) (m : Nat) (h : ∀ x ∈ t, k' (f x) = k x) : writA k' (t.map f) m = writA k t m := by
  unfold writA
  rw [splitA_map t h, all_map' (f := f) (fun c => !(k c).noWrite) _ t (fun x hx => by rw [h x hx]),
    all_map' (f := List.map f) (fun row => decide (row.length ≤ m) && !lastIs k K.isS row) _ (splitA k t) (fun row hr => by rw [lastIs_map _ _ (fun x hx => by rw [h x (splitA_mem t row hr x hx)]), List.length_map])]
theorem headA_map (t : List α) (h : ∀ x ∈ t, k' (f x) = k x) : headA k' (t.map f) = headA k t := by
  unfold headA
  rw [escA_map t h, all_map' (f := f) (fun c => !(k c).isU) _ t (fun x hx => by rw [h x hx])]

theorem hdrA_map {sp : α} {sp' : β} {uq : α → α → α} {uq' : β → β → β} (t : List α) (h : ∀ x ∈ t, k' (f x) = k x) (hsp : f sp = sp') (hks : k' sp' = k sp) (hu : ∀ a b, (a ∈ t ∨ a = sp) → (b ∈ t ∨ b = sp) → (k a).isX = true → (k b).isX = true → f (uq a b) = uq' (f a) (f b)) :
    hdrA k' sp' uq' (t.map f) = (hdrA k sp uq t).map f := by
  unfold hdrA
  have e : (t.map f).map (fun c => if (k' c).isU then sp' else c) = (t.map fun c => if (k c).isU then sp else c).map f := by
    rw [List.map_map, List.map_map]
    apply List.map_congr_left
    intro x hx
    simp only [Function.comp, h x hx]
    split
    · exact hsp.symm
    · rfl
  rw [e]
  have hy : ∀ x ∈ (t.map fun c => if (k c).isU then sp else c), k' (f x) = k x ∧ (x ∈ t ∨ x = sp) := by
    intro x hx
    obtain ⟨c, hc, rfl⟩ := List.mem_map.mp hx
    split
    · exact ⟨by rw [hsp]; exact hks, .inr rfl⟩
    · exact ⟨h c hc, .inl hc⟩
  generalize (t.map fun c => if (k c).isU then sp else c) = y at hy
  match y, hy with
  | [], _ => rfl
  | [_], _ => rfl
  | [_, _], _ => rfl
  | [c, a, b], hy =>
    have hc := hy c (by simp)
    have ha := hy a (by simp)
    have hb := hy b (by simp)
    simp only [List.map_cons, List.map_nil, hc.1, ha.1, hb.1]
    split
    · rename_i q
      simp only [Bool.and_eq_true] at q
      simp [hu a b ha.2 hb.2 q.1.2 q.2]
    · rfl
  | _ :: _ :: _ :: _ :: _, _ => rfl

theorem transA_map {eq : α} {eq' : β} {q1 q2 : α → α} {q1' q2' : β → β} (he : f eq = eq') (t : List α) (h : ∀ x ∈ t, k' (f x) = k x) (h1 : ∀ x ∈ t, f (q1 x) = q1' (f x)) (h2 : ∀ x ∈ t, f (q2 x) = q2' (f x)) :
    transA k' eq' q1' q2' (t.map f) = (transA k eq q1 q2 t).map f := by
  unfold transA
  refine flatMap_map' _ _ _ _ (fun x hx => ?_)
  rw [h x hx]
  split
  · rfl
  · simp [he, h1 x hx, h2 x hx]

theorem isEAt_map (l : List α) (i : Nat) (h : ∀ x ∈ l, k' (f x) = k x) : isEAt k' (l.map f) i = isEAt k l i := by
  unfold isEAt
  rw [List.getElem?_map]
  cases e : l[i]? with
  | none => rfl
  | some c => simp [h c (List.mem_of_getElem? e)]

theorem chunkA_map {eq : α} {eq' : β} (he : f eq = eq') (m : Nat) : ∀ (n : Nat) (l : List α), (∀ x ∈ l, k' (f x) = k x) →
    chunkA k' eq' m n (l.map f) = ((chunkA k eq m n l).1.map (List.map f), (chunkA k eq m n l).2.map f)
  | 0, l, _ => rfl
  | n + 1, l, h => by
    simp only [chunkA, List.length_map, isEAt_map _ _ h]
    split
    · rfl
    · split
      · rw [← List.map_drop, chunkA_map he m n (l.drop (m - 3)) (fun x hx => h x (List.mem_of_mem_drop hx))]
        simp
      · split
        · rw [← List.map_drop, chunkA_map he m n (l.drop (m - 2)) (fun x hx => h x (List.mem_of_mem_drop hx))]
          simp
        · rw [← List.map_drop, chunkA_map he m n (l.drop (m - 1)) (fun x hx => h x (List.mem_of_mem_drop hx))]
          simp [he]

theorem lineA_map {eq nl : α} {eq' nl' : β} {q1 q2 : α → α} {q1' q2' : β → β} (he : f eq = eq') (hn : f nl = nl') (m : Nat) (l : List α) (h : ∀ x ∈ l, k' (f x) = k x) (h1 : ∀ x ∈ l, (k x).isS = true → f (q1 x) = q1' (f x)) (h2 : ∀ x ∈ l, (k x).isS = true → f (q2 x) = q2' (f x)) :
    lineA k' eq' nl' q1' q2' m (l.map f) = (lineA k eq nl q1 q2 m l).map (List.map f) := by
  unfold lineA
  rw [List.length_map, chunkA_map he m l.length l h, List.getLast?_map]
  dsimp only
  cases e : l.getLast? with
  | none => simp
  | some c =>
    have hc := List.mem_of_getLast? e
    simp only [Option.map_some, h c hc, List.length_map]
    split
    · rename_i hs
      simp only [List.map_append, List.map_cons, List.map_nil, List.map_dropLast]
      congr 2
      split
      · simp [he, h1 c hc hs, h2 c hc hs]
      · split
        · simp [he, hn]
        · simp [he, hn, h1 c hc hs, h2 c hc hs]
    · simp

theorem joinA_map {nl : α} {nl' : β} (hn : f nl = nl') : ∀ (l : List (List α)), joinA nl' (l.map (List.map f)) = (joinA nl l).map f
  | [] => rfl
  | [x] => rfl
  | x :: y :: r => by
    have ih := joinA_map hn (y :: r)
    simp only [List.map_cons] at ih
    simp only [List.map_cons, joinA, ih, List.map_append, hn]

theorem bodyA_map {eq nl : α} {eq' nl' : β} {q1 q2 : α → α} {q1' q2' : β → β} (he : f eq = eq') (hn : f nl = nl') (m : Nat) (t : List α) (h : ∀ x ∈ t, k' (f x) = k x) (h1 : ∀ x ∈ t, f (q1 x) = q1' (f x)) (h2 : ∀ x ∈ t, f (q2 x) = q2' (f x))
    (ke : k' eq' = k eq) (kes : (k eq).isS = false) (kq1 : ∀ x ∈ t, k' (q1' (f x)) = k (q1 x) ∧ (k (q1 x)).isS = false) (kq2 : ∀ x ∈ t, k' (q2' (f x)) = k (q2 x) ∧ (k (q2 x)).isS = false) :
    bodyA k' eq' nl' q1' q2' m (t.map f) = (bodyA k eq nl q1 q2 m t).map f := by
  have hb := transA_map (k := k) (k' := k') (q1 := q1) (q2 := q2) he t h h1 h2
  have hm : ∀ x ∈ transA k eq q1 q2 t, k' (f x) = k x ∧ ((k x).isS = true → x ∈ t) := by
    intro x hx
    obtain ⟨c, hc, hx⟩ := List.mem_flatMap.mp hx
    split at hx
    · rw [List.mem_singleton] at hx; subst hx; exact ⟨h x hc, fun _ => hc⟩
    · simp only [List.mem_cons, List.not_mem_nil, or_false] at hx
      rcases hx with rfl | rfl | rfl
      · exact ⟨by rw [he]; exact ke, fun q => by rw [kes] at q; cases q⟩
      · exact ⟨by rw [h1 c hc]; exact (kq1 c hc).1, fun q => by rw [(kq1 c hc).2] at q; cases q⟩
      · exact ⟨by rw [h2 c hc]; exact (kq2 c hc).1, fun q => by rw [(kq2 c hc).2] at q; cases q⟩
  unfold bodyA
  dsimp only
  rw [hb]
  generalize transA k eq q1 q2 t = b at hm
  have hl : linesA k' [] (b.map f) = (linesA k [] b).map (List.map f) := linesA_map (f := f) b [] (fun x hx => (hm x hx).1)
  have hr : ∀ row ∈ linesA k [] b, ∀ x ∈ row, x ∈ b := fun row hr x hx => (linesA_mem b [] row hr x hx).elim (fun q => by simp at q) id
  have hp : ((linesA k [] b).map (List.map f)).flatMap (lineA k' eq' nl' q1' q2' m) = ((linesA k [] b).flatMap (lineA k eq nl q1 q2 m)).map (List.map f) :=
    flatMap_map' _ _ _ _ (fun row hrow => lineA_map he hn m row (fun x hx => (hm x (hr row hrow x hx)).1) (fun x hx hs => h1 x ((hm x (hr row hrow x hx)).2 hs)) (fun x hx hs => h2 x ((hm x (hr row hrow x hx)).2 hs)))
  rw [hl, hp, lastIs_map _ _ (fun x hx => by rw [(hm x hx).1]), lastIs_map _ _ (fun x hx => by rw [(hm x hx).1]), ← joinA_map hn]
  split <;> simp
end
end Mine
end
section -- BaseC
open PySem PySem.W PyProof.Rows PySem.Calls
namespace Mine

/-- what a call of the def at f gives back, wherever it is called -/
def Con (w : World) (f : Addr) (d u : Nat) (vs : List Value) (P : Prop) (R : Tok → Value) : Prop :=
  ∀ (loose : List Str) (mean : ExcName → Option Value) (mg mb : Str → Option Value) (dp un : Nat) (gd : Option (List Code)) (cn : Str) (cs : Scope) (a : Addr) (ccd : Value) (cl : List (Str × Addr)) (outer : List Env) (A₀ : Around) (base h₀ : Heap) (L : Addr) (m : Str → Option Value) (news : List (Addr × Obj)) (s : Shared) (Q E : Value → Shared → Prop),
    Below A₀ base outer h₀ → Fr h₀ L s.heap m → (Mine.hd.heap_39 w.params).In h₀ → News h₀ L s.heap news → Top Mine.hd.view_39 loose mean mg mb h₀ → cs.kind = .function → dp + d < recursionLimit → un + u < cLine → P →
    (∀ (t : Tok) (h' : Heap) (tk' : Nat), Fr h₀ L h' m → News h₀ L h' news → Q (R t) { s with heap := h', toks := tk' }) →
    wpAny (model PySem.Challenge.rw_dm5005_01.row.prog w) (ktrTop dp un gd cn cs L a ccd cl outer) (call (.ref f) vs) Q E s

/-- a place where the walk is to wait for a line of mine -/
structure Hold (p : Prop) : Prop where
  out : p
theorem hold {p : Prop} (h : Hold p) : p := h.out

/-- a hex figure's worth -/
def hexv (c : Nat) : Nat := if c ≤ 57 then c - 48 else if 97 ≤ c then c - 87 else c - 55
def unqN (a b : Nat) : Nat := 16 * hexv a + hexv b
def figs : List Nat := [52, 49, 97, 68]

open KIN in
theorem read_hex : ∀ a ∈ figs, ∀ b ∈ figs, (int_private% "readNumeral") 0 16 [a, b] = (int_private% "Numeral.value") (unqN a b : Nat) := by
  intro a ha b hb
  simp only [figs, List.mem_cons, List.not_mem_nil, or_false] at ha hb
  rcases ha with rfl | rfl | rfl | rfl <;> rcases hb with rfl | rfl | rfl | rfl <;> kernel_rfl
theorem figs_small : ∀ a ∈ figs, (decide (a < 128) = true) ∧ ((a != 0) = true) := by decide

theorem gives_hex (a b : Nat) (u v : Tok) (ha : a ∈ figs) (hb : b ∈ figs) : Gives (Builtin.«int.__new__» ⟨[.type "int", .str ⟨#[a, b]⟩ u, .int 16 v], []⟩) (.int (unqN a b : Nat)) := by
  refine .of_wp fun M A E s Q h => ?_
  obtain ⟨hp, g, d, tk, os⟩ := s
  have f1 := F.conv_sub_int
  have f2 := F.madeHere_int
  have e0 := read_hex a ha b hb
  have e1 : (Array.all (#[a, b] : Array Nat) fun x => decide (x < 128)) = true := by simp [of_decide_eq_true (figs_small a ha).1, of_decide_eq_true (figs_small b hb).1]
  have e2 : List.takeWhile (fun x => x != 0) [a, b] = [a, b] := by rw [List.takeWhile_cons, (figs_small a ha).2, List.takeWhile_cons, (figs_small b hb).2]; rfl
  have hk : KIN.Hid ((int_private% "readNumeral") 0 (Int.toNat 16) [a, b] = (int_private% "Numeral.value") (unqN a b : Nat)) := KIN.Hid.mk e0
  clear e0
  repeat (any_goals (first | assumption | wp_step))
  all_goals (try rw [if_pos e1])
  all_goals (try rw [e2])
  repeat (any_goals (first | assumption | wp_step))
  all_goals (rw [hk.out])
  all_goals (try dsimp only)
  repeat (any_goals (first | assumption | wp_step))
  all_goals exact ⟨_, rfl, h⟩
theorem args_init_3 (a b c : Value) : argsOk "object.__init__" ⟨[a, b, c], []⟩ := by unfold argsOk; kernel_rfl
theorem typeCall_2 (a b : Value) : checkTypeCall "int" ⟨[a, b], []⟩ = pure () := by kernel_rfl
theorem newCall_2 (a b : Value) : checkBuiltinCall "int.__new__" ⟨[.type "int", a, b], []⟩ = pure () := by kernel_rfl
theorem call_hex {prog : Program} {w : World} {A : Around} {E : Value → Shared → Prop} {s : Shared} {Q : Value → Shared → Prop} {x : Str} {a b : Nat} {u v : Tok} (hx : x = ⟨#[a, b]⟩) (ha : a ∈ figs) (hb : b ∈ figs)
    (h : Q (.int (unqN a b : Nat) s.toks) { s with toks := s.toks + 1 }) : wpAny (model prog w) A (call (.type "int") [.str x u, .int 16 v]) Q E s := by
  subst hx
  exact callType_new F.called_int F.newNe_int (typeCall_2 _ _) (newCall_2 _ _) (fun obj => args_init_3 obj _ _) F.entry_int_new (gives_hex a b u v ha hb).meets (show (Made.int (unqN a b : Nat)).post _ s from ⟨rfl, h⟩)
theorem slice13 (a b c : Nat) : Txt.slice ⟨#[a, b, c]⟩ (some 1) (some 3) = ⟨#[b, c]⟩ := by
  have e : Builtin.Str.strSliceIndices (some 1) (some 3) 1 3 = [1, 2] := by decide +kernel
  unfold Txt.slice
  show (if ((1 : Int) == 1 && (Builtin.Str.strSliceIndices (some 1) (some 3) 1 3).length == 3) = true then _ else (⟨((Builtin.Str.strSliceIndices (some 1) (some 3) 1 3).filterMap (fun x => (#[a, b, c] : Array Nat)[x]?)).toArray⟩ : Str)) = _
  rw [e]
  rfl
end Mine
end
section -- PureC
open PySem
namespace Mine
/-- the sixteen figures, both cases -/
def hexC (c : Nat) : Bool := (48 ≤ c && c ≤ 57) || (65 ≤ c && c ≤ 70) || (97 ≤ c && c ≤ 102)
/-- decode's look at a sign -/
def kD (c : Nat) : K :=
  if c = 61 then .E else if c = 10 then .N else if c = 13 then .R else if hexC c then .X else if Unicode.isLineBreak c then .B else if Unicode.isSpace c then .S else .P
def kH (c : Nat) : K := if c = 61 then .E else if hexC c then .X else if c = 95 then .U else .P
def kB (c : Nat) : K :=
  if c = 61 then .E else if c = 10 then .N else if c = 13 then .R else if c = 32 ∨ c = 9 then .S
  else if c < 256 then (if 33 ≤ c ∧ c ≤ 126 then .P else if Unicode.isLineBreak c then .B else .T)
  else if Unicode.isLineBreak c then .L else .P
def cAt (x : Str) (j : Nat) : Nat := x.cps.getD j 0
def escAt (x : Str) (j : Nat) : Bool := (cAt x j == 61) && hexC (cAt x (j + 1)) && hexC (cAt x (j + 2))
end Mine
end
section -- PureD
open PySem PySem.W PyProof.Rows
namespace Mine

theorem item_nat {x : Str} {i : Nat} {j : Int} (e : j = (i : Int)) (h : i < x.length) : Txt.item x j = ⟨#[cAt x i]⟩ := by
  subst e
  rw [item_meets ⟨by omega, by omega⟩]
  rfl
theorem one_eq (c d : Nat) (y : Str) (h : y = ⟨#[d]⟩) : ((⟨#[c]⟩ : Str) == y) = (c == d) := by
  subst h
  rw [Bool.eq_iff_iff, beq_iff_eq, beq_iff_eq]
  constructor
  · intro h; simpa using h
  · rintro rfl; rfl
theorem one_in (y : Str) (c : Nat) : (Builtin.Str.occurrences y ⟨#[c]⟩ 0 y.length 1).isEmpty = !decide (c ∈ y.cps.toList) := by
  have h := StrLaws.found_one y c
  rw [← h, Bool.not_not]
theorem hex_in1 (c : Nat) (y : Str) (hy : y.cps.toList = [48, 49, 50, 51, 52, 53, 54, 55, 56, 57, 65, 66, 67, 68, 69, 70, 97, 98, 99, 100, 101, 102]) : decide (c ∈ y.cps.toList) = hexC c := by
  rw [hy, Bool.eq_iff_iff]
  simp only [decide_eq_true_eq, List.mem_cons, List.not_mem_nil, or_false, hexC, Bool.or_eq_true, Bool.and_eq_true]
  omega
theorem hex_in2 (c : Nat) (y : Str) (hy : y.cps.toList = [48, 49, 50, 51, 52, 53, 54, 55, 56, 57, 97, 98, 99, 100, 101, 102, 65, 66, 67, 68, 69, 70]) : decide (c ∈ y.cps.toList) = hexC c := by
  rw [hy, Bool.eq_iff_iff]
  simp only [decide_eq_true_eq, List.mem_cons, List.not_mem_nil, or_false, hexC, Bool.or_eq_true, Bool.and_eq_true]
  omega

theorem isE_kD (c : Nat) : (kD c).isE = (c == 61) := by
  unfold kD
  split
  · subst_vars; rfl
  · rename_i h
    have : (c == 61) = false := by simpa using h
    rw [this]
    repeat' split
    all_goals rfl
theorem hex_brk (c : Nat) (h : hexC c = true) : c ≠ 61 ∧ c ≠ 10 ∧ c ≠ 13 ∧ c ≠ 32 ∧ c ≠ 9 := by
  simp only [hexC, Bool.or_eq_true, Bool.and_eq_true, decide_eq_true_eq] at h
  omega
theorem isX_kD (c : Nat) : (kD c).isX = hexC c := by
  unfold kD
  cases h : hexC c with
  | true =>
    have := hex_brk c h
    simp [this.1, this.2.1, this.2.2.1, K.isX]
  | false =>
    repeat' split
    all_goals first | rfl | (rename_i q; simp at q)

/-- the list's look and the place's look -/
theorem escA_iff (k : Nat → K) : ∀ l : List Nat, escA k l = true ↔ ∃ j, j + 2 < l.length ∧ (k (l.getD j 0)).isE = true ∧ (k (l.getD (j + 1) 0)).isX = true ∧ (k (l.getD (j + 2) 0)).isX = true
  | [] => ⟨fun h => by simp [escA] at h, fun ⟨j, hj, _⟩ => absurd hj (by simp)⟩
  | [_] => ⟨fun h => by simp [escA] at h, fun ⟨j, hj, _⟩ => absurd hj (by simp)⟩
  | [_, _] => ⟨fun h => by simp [escA] at h, fun ⟨j, hj, _⟩ => absurd hj (by simp)⟩
  | c :: a :: b :: r => by
    have ih := escA_iff k (a :: b :: r)
    simp only [escA, Bool.or_eq_true, Bool.and_eq_true, ih]
    constructor
    · rintro (⟨⟨h1, h2⟩, h3⟩ | ⟨j, hj, h1, h2, h3⟩)
      · exact ⟨0, by simp, by simpa using h1, by simpa using h2, by simpa using h3⟩
      · exact ⟨j + 1, by simpa using hj, by simpa using h1, by simpa using h2, by simpa using h3⟩
    · rintro ⟨j, hj, h1, h2, h3⟩
      cases j with
      | zero => exact .inl ⟨⟨by simpa using h1, by simpa using h2⟩, by simpa using h3⟩
      | succ j => exact .inr ⟨j, by simpa using hj, by simpa using h1, by simpa using h2, by simpa using h3⟩
theorem cAt_toList (x : Str) (j : Nat) : x.cps.toList.getD j 0 = cAt x j := by
  unfold cAt
  rw [List.getD_eq_getElem?_getD, Array.getElem?_toList, Array.getD_eq_getD_getElem?]
theorem escAt_iff (x : Str) : escA kD x.cps.toList = true ↔ ∃ j, j + 2 < x.length ∧ escAt x j = true := by
  rw [escA_iff]
  simp only [cAt_toList, isE_kD, isX_kD, escAt, Bool.and_eq_true, and_assoc]
  rfl
theorem esc_true {x : Str} {j : Nat} (h : j + 2 < x.length) (e : escAt x j = true) : escA kD x.cps.toList = true := (escAt_iff x).mpr ⟨j, h, e⟩
theorem esc_false {x : Str} (h : ∀ j, j + 2 < x.length → escAt x j = false) : escA kD x.cps.toList = false := by
  cases e : escA kD x.cps.toList with
  | false => rfl
  | true =>
    obtain ⟨j, hj, q⟩ := (escAt_iff x).mp e
    rw [h j hj] at q
    cases q
end Mine
end
section -- PureE
open PySem PySem.W PyProof.Rows
namespace Mine

/-! ## the classes say what Python's own looks say -/
theorem brk_list (c : Nat) : Unicode.isLineBreak c = (decide (10 ≤ c ∧ c ≤ 13) || decide (28 ≤ c ∧ c ≤ 30) || c == 133 || decide (8232 ≤ c ∧ c ≤ 8233)) := by
  rw [Bool.eq_iff_iff]
  simp only [Unicode.isLineBreak, UnicodeData.lineBreak, UnicodeData.lineBreak0, Unicode.within, Bool.or_eq_true, decide_eq_true_eq, beq_iff_eq]
  repeat' split
  all_goals (simp only [Bool.or_eq_true, decide_eq_true_eq, Bool.false_eq_true, or_false, false_iff] at *; omega)
theorem spc_list (c : Nat) : Unicode.isSpace c = (decide (9 ≤ c ∧ c ≤ 13) || decide (28 ≤ c ∧ c ≤ 32) || c == 133 || c == 160 || c == 5760 || decide (8192 ≤ c ∧ c ≤ 8202) || decide (8232 ≤ c ∧ c ≤ 8233) || c == 8239 || c == 8287 || c == 12288) := by
  rw [Bool.eq_iff_iff]
  simp only [Unicode.isSpace, UnicodeData.space, UnicodeData.space0, Unicode.within, Bool.or_eq_true, decide_eq_true_eq, beq_iff_eq]
  repeat' split
  all_goals (simp only [Bool.or_eq_true, decide_eq_true_eq, Bool.false_eq_true, or_false, false_iff] at *; omega)
theorem brk_spc {c : Nat} (h : Unicode.isLineBreak c = true) : Unicode.isSpace c = true := by
  rw [brk_list] at h
  rw [spc_list]
  simp only [Bool.or_eq_true, decide_eq_true_eq, beq_iff_eq] at h ⊢
  omega
theorem hex_not_spc {c : Nat} (h : hexC c = true) : Unicode.isSpace c = false := by
  simp only [hexC, Bool.or_eq_true, Bool.and_eq_true, decide_eq_true_eq] at h
  rw [spc_list, Bool.eq_false_iff]
  simp only [ne_eq, Bool.or_eq_true, decide_eq_true_eq, beq_iff_eq]
  omega
theorem kD_spc (c : Nat) : (kD c).spc = Unicode.isSpace c := by
  unfold kD
  split
  · subst_vars; decide +kernel
  split
  · subst_vars; decide +kernel
  split
  · subst_vars; decide +kernel
  split
  · rename_i h; rw [hex_not_spc h]; rfl
  split
  · rename_i h; rw [brk_spc h]; rfl
  split
  · rename_i h; rw [h]; rfl
  · rename_i h; rw [Bool.eq_false_iff.mpr h]; rfl
theorem kD_brk (c : Nat) : (kD c).brk = Unicode.isLineBreak c := by
  unfold kD
  split
  · subst_vars; decide +kernel
  split
  · subst_vars; decide +kernel
  split
  · subst_vars; decide +kernel
  split
  · rename_i h
    have : Unicode.isLineBreak c = false := by
      cases e : Unicode.isLineBreak c with
      | false => rfl
      | true => have := brk_spc e; rw [hex_not_spc h] at this; cases this
    rw [this]; rfl
  split
  · rename_i h; rw [h]; rfl
  · rename_i h
    rw [Bool.eq_false_iff.mpr h]
    split <;> rfl
theorem kD_isR (c : Nat) : (kD c).isR = (c == 13) := by
  unfold kD
  split
  · subst_vars; rfl
  split
  · subst_vars; rfl
  split
  · subst_vars; rfl
  · rename_i h
    have : (c == 13) = false := by simpa using h
    rw [this]
    repeat' split
    all_goals rfl
theorem kD_isN (c : Nat) : (kD c).isN = (c == 10) := by
  unfold kD
  split
  · subst_vars; rfl
  split
  · subst_vars; rfl
  · rename_i h
    have : (c == 10) = false := by simpa using h
    rw [this]
    repeat' split
    all_goals rfl

/-! ## the library's words over lists of signs -/
theorem rstrip_toList (x : Str) : (Txt.rstrip x).cps.toList = rstripA kD x.cps.toList := by
  unfold Txt.rstrip
  rw [PySem.W.stripBy_eq]
  show (Builtin.Str.strSub x 0 (x.length - ((x.cps.toList.drop 0).reverse.takeWhile Unicode.isSpace).length)).cps.toList = _
  rw [StrLaws.strSub_toList, List.drop_zero]
  unfold rstripA
  have e : (fun c => (kD c).spc) = Unicode.isSpace := funext kD_spc
  rw [e]
  have hl : x.length = x.cps.toList.length := by simp [Str.length]
  rw [hl]
  generalize x.cps.toList = l
  have h := List.takeWhile_append_dropWhile (p := Unicode.isSpace) (l := l.reverse)
  have h2 : l = (l.reverse.dropWhile Unicode.isSpace).reverse ++ (l.reverse.takeWhile Unicode.isSpace).reverse := by
    rw [← List.reverse_append, h, List.reverse_reverse]
  have h3 : l.length = (l.reverse.dropWhile Unicode.isSpace).length + (l.reverse.takeWhile Unicode.isSpace).length := by
    have := congrArg List.length h2
    simpa using this
  rw [Nat.sub_zero]
  conv => lhs; rw [show l.length - (l.reverse.takeWhile Unicode.isSpace).length = (l.reverse.dropWhile Unicode.isSpace).reverse.length by simp; omega]; arg 2; rw [h2]
  exact List.take_left

theorem linesA_cons {α : Type} (k : α → K) (cur : List α) (c : α) (r : List α) :
    linesA k cur (c :: r) = if (k c).brk then cur :: linesA k [] (match r with | d :: r' => if (k c).isR && (k d).isN then r' else d :: r' | [] => []) else linesA k (cur ++ [c]) r := by
  cases r with
  | nil => simp only [linesA]; split <;> simp
  | cons d r =>
    simp only [linesA]
    split
    · split <;> rfl
    · rfl

open Builtin.Str in
theorem lines_run (k : Nat → K) (x : Str) (hb : ∀ c ∈ x.cps.toList, (k c).brk = Unicode.isLineBreak c) (hr : ∀ c ∈ x.cps.toList, (k c).isR = (c == 13)) (hn : ∀ c ∈ x.cps.toList, (k c).isN = (c == 10)) :
    ∀ (m cur : Nat) (ls : Array (Nat × Nat × Nat)) (start : Nat), cur + m = x.length → start ≤ cur + 1 →
      (StrLaws.lsEnd x (Id.run (forIn (m := Id) (List.range' cur m) (ls, start) (StrLaws.lsBody x)))).map (fun p => (strSub x p.1 p.2.1).cps.toList) =
        ls.toList.map (fun p => (strSub x p.1 p.2.1).cps.toList) ++ (if start ≤ cur then linesA k ((x.cps.toList.drop start).take (cur - start)) (x.cps.toList.drop cur) else linesA k [] (x.cps.toList.drop (cur + 1)))
  | 0, cur, ls, start, hm, hs => by
    have hx : x.cps.toList.length = x.length := by simp [Str.length]
    have hc : cur = x.length := by omega
    subst hc
    rw [List.range'_zero, List.forIn_nil]
    show (StrLaws.lsEnd x (ls, start)).map _ = _
    unfold StrLaws.lsEnd
    have e1 : x.cps.toList.drop x.length = [] := List.drop_eq_nil_of_le (Nat.le_of_eq hx)
    have e2 : x.cps.toList.drop (x.length + 1) = [] := List.drop_eq_nil_of_le (by omega)
    by_cases h1 : start < x.length
    · have h2 : start ≤ x.length := by omega
      simp only [h1, h2, if_true, e1, Array.toList_push, List.map_append, List.map_cons, List.map_nil, linesA, StrLaws.strSub_toList]
      have : ((x.cps.toList.drop start).take (x.length - start)).isEmpty = false := by
        rw [List.take_of_length_le (by rw [List.length_drop, hx]; exact Nat.le_refl _)]
        cases e : x.cps.toList.drop start with
        | nil => have := List.drop_eq_nil_iff.mp e; omega
        | cons a r => rfl
      simp [this]
    · by_cases h2 : start ≤ x.length
      · have h3 : start = x.length := by omega
        subst h3
        simp [linesA, e1]
      · simp only [h1, h2, if_false, e2, linesA, List.isEmpty_nil, if_true, List.append_nil]
  | m + 1, cur, ls, start, hm, hs => by
    have hx : x.cps.toList.length = x.length := by simp [Str.length]
    have hlt : cur < x.cps.toList.length := by omega
    have ih := lines_run k x hb hr hn m (cur + 1)
    rw [List.range'_succ, List.forIn_cons]
    have hd : x.cps.toList.drop cur = x.cps.toList[cur] :: x.cps.toList.drop (cur + 1) := List.drop_eq_getElem_cons hlt
    have hg : x.cps.getD cur 0 = x.cps.toList[cur] := by
      rw [Array.getD_eq_getD_getElem?, ← Array.getElem?_toList, List.getElem?_eq_getElem hlt]; rfl
    have hmem : x.cps.toList[cur] ∈ x.cps.toList := List.getElem_mem hlt
    have hg1 : x.cps[cur + 1]? = (x.cps.toList.drop (cur + 1)).head? := by rw [← Array.getElem?_toList, List.head?_drop]
    by_cases hsc : start ≤ cur
    · rw [if_pos hsc, hd, linesA_cons, hb _ hmem]
      cases hB : Unicode.isLineBreak x.cps.toList[cur] with
      | true =>
        have hbody : StrLaws.lsBody x cur (ls, start) = pure (ForInStep.yield (ls.push (start, cur, StrLaws.lsNext x cur), StrLaws.lsNext x cur)) := by
          unfold StrLaws.lsBody
          simp only [hg, hB, decide_eq_true hsc, Bool.and_self, if_true]
        rw [hbody]
        have nb := StrLaws.lsNext_bounds x cur
        simp only [if_true]
        refine (ih (ls.push (start, cur, StrLaws.lsNext x cur)) (StrLaws.lsNext x cur) (by omega) (by omega)).trans ?_
        rw [Array.toList_push, List.map_append, List.append_assoc]
        congr 1
        simp only [List.map_cons, List.map_nil, StrLaws.strSub_toList, List.cons_append, List.nil_append, List.cons.injEq, true_and]
        unfold StrLaws.lsNext
        rw [hg, hg1]
        cases hrest : x.cps.toList.drop (cur + 1) with
        | nil =>
          have hq : ((x.cps.toList[cur] == 13 && (none : Option Nat) == some 10) = true) = False := by simp
          simp only [List.head?_nil, hq, if_false, Nat.le_refl, if_true, Nat.sub_self, List.take_zero]
        | cons d r' =>
          have hdm : d ∈ x.cps.toList := List.mem_of_mem_drop (i := cur + 1) (by rw [hrest]; exact List.mem_cons_self ..)
          have hr' : x.cps.toList.drop (cur + 1 + 1) = r' := by
            rw [← List.drop_drop, hrest]; rfl
          dsimp only
          rw [hr _ hmem, hn _ hdm, List.head?_cons]
          by_cases hq : (x.cps.toList[cur] == 13 && d == 10) = true
          · have hq' : (x.cps.toList[cur] == 13 && some d == some 10) = true := by simpa using hq
            simp only [hq', hq, if_true]
            rw [if_neg (by omega), hr']
          · have hq' : ¬ (x.cps.toList[cur] == 13 && some d == some 10) = true := by simpa using hq
            rw [if_neg hq', if_neg hq, if_pos (Nat.le_refl _), Nat.sub_self, List.take_zero]
      | false =>
        have hbody : StrLaws.lsBody x cur (ls, start) = pure (ForInStep.yield (ls, start)) := by
          unfold StrLaws.lsBody
          simp only [hg, hB, Bool.and_false, Bool.false_eq_true, if_false]
        rw [hbody]
        simp only [Bool.false_eq_true, if_false]
        refine (ih ls start (by omega) (by omega)).trans ?_
        rw [if_pos (by omega)]
        congr 1
        congr 1
        have e : cur + 1 - start = (cur - start) + 1 := by omega
        rw [e, List.take_add_one, List.getElem?_drop, show start + (cur - start) = cur by omega, List.getElem?_eq_getElem hlt]
        rfl
    · have hst : start = cur + 1 := by omega
      subst hst
      have hbody : StrLaws.lsBody x cur (ls, cur + 1) = pure (ForInStep.yield (ls, cur + 1)) := by
        unfold StrLaws.lsBody
        have : ¬ (cur + 1 ≤ cur) := by omega
        simp [this]
      rw [hbody, if_neg hsc]
      refine (ih ls (cur + 1) (by omega) (by omega)).trans ?_
      simp

theorem lines_of (k : Nat → K) (x : Str) (hb : ∀ c ∈ x.cps.toList, (k c).brk = Unicode.isLineBreak c) (hr : ∀ c ∈ x.cps.toList, (k c).isR = (c == 13)) (hn : ∀ c ∈ x.cps.toList, (k c).isN = (c == 10)) :
    (Txt.lines x).map (·.cps.toList) = linesA k [] x.cps.toList := by
  have h1 : (linesOf x).map (·.cps.toList) = linesA k [] x.cps.toList := by
    have h := lines_run k x hb hr hn x.length 0 #[] 0 (by omega) (by omega)
    rw [← StrLaws.ls_eq] at h
    simp only [List.map_nil, List.nil_append, Nat.le_refl, if_true, List.drop_zero, Nat.sub_self, List.take_zero] at h
    rw [← h]
    unfold linesOf lineCuts
    simp [List.map_map, Function.comp_def]
  unfold Txt.lines
  split
  · rename_i h
    have h := beq_iff_eq.mp h
    rw [← h1]
    unfold linesOf
    rw [h]
    simp only [List.map_cons, List.map_nil]
    rw [StrLaws.sub_whole]
  · exact h1
theorem lines_kD (x : Str) : (Txt.lines x).map (·.cps.toList) = linesA kD [] x.cps.toList := lines_of kD x (fun c _ => kD_brk c) (fun c _ => kD_isR c) (fun c _ => kD_isN c)

/-! split by a line end -/
theorem splitA_free {k : Nat → K} : ∀ p : List Nat, (∀ c ∈ p, (k c).isN = false) → splitA k p = [p]
  | [], _ => rfl
  | c :: r, h => by
    simp only [splitA, h c (by simp), splitA_free r (fun x hx => h x (List.mem_cons_of_mem _ hx))]
    rfl
theorem splitA_cat {k : Nat → K} (n : Nat) (hn : (k n).isN = true) : ∀ (p q : List Nat), (∀ c ∈ p, (k c).isN = false) → splitA k (p ++ n :: q) = p :: splitA k q
  | [], q, _ => by simp only [List.nil_append, splitA, hn, if_true]
  | c :: r, q, h => by
    simp only [List.cons_append, splitA, h c (by simp), splitA_cat n hn r q (fun x hx => h x (List.mem_cons_of_mem _ hx))]
    rfl
theorem splitA_join {k : Nat → K} (n : Nat) (hn : (k n).isN = true) : ∀ (ps : List Str), ps ≠ [] → (∀ p ∈ ps, ∀ c ∈ p.cps.toList, (k c).isN = false) → splitA k (Str.join ⟨#[n]⟩ ps).cps.toList = ps.map (·.cps.toList)
  | [], h, _ => absurd rfl h
  | [p], _, h => splitA_free _ (h p (by simp))
  | p :: q :: r, _, h => by
    have ih := splitA_join n hn (q :: r) (by simp) (fun a ha => h a (List.mem_cons_of_mem _ ha))
    show splitA k (p ++ ⟨#[n]⟩ ++ Str.join ⟨#[n]⟩ (q :: r)).cps.toList = _
    rw [Str.cps_append, Str.cps_append, Array.toList_append, Array.toList_append, List.append_assoc]
    show splitA k (p.cps.toList ++ n :: (Str.join ⟨#[n]⟩ (q :: r)).cps.toList) = _
    rw [splitA_cat n hn _ _ (h p (by simp)), ih]
    rfl
theorem split_ne (x : Str) (c : Nat) : Txt.split x ⟨#[c]⟩ ≠ [] := by
  unfold Txt.split
  split
  · simp
  · split
    · simp
    · rw [StrLaws.partsBetween_eq]
      obtain ⟨p, r, e⟩ := StrLaws.partsFrom_ne x (⟨#[c]⟩ : Str).length 0 (Builtin.Str.occurrences x ⟨#[c]⟩ 0 x.length (x.length + 1))
      rw [e]; simp
theorem split_nl (k : Nat → K) (hk : ∀ c, (k c).isN = (c == 10)) (x y : Str) (hy : y = ⟨#[10]⟩) : (Txt.split x y).map (·.cps.toList) = splitA k x.cps.toList := by
  subst hy
  rw [← splitA_join 10 (by rw [hk]; rfl) (Txt.split x ⟨#[10]⟩) (split_ne x 10), StrLaws.join_split]
  intro p hp c hc
  rw [hk]
  have := StrLaws.split_free x 10 p hp
  cases e : c == 10 with
  | false => rfl
  | true => rw [beq_iff_eq] at e; subst e; exact absurd hc this
end Mine
end
section -- BaseL
open PySem PySem.W PyProof.Rows PySem.Calls
namespace Mine
section
variable {prog : Program} {w : World} {A : Around} {E : Value → Shared → Prop} {s : Shared} {env : Env} {h₀ : Heap} {x : Str} {body : List Stmt} {Q : Flow → Shared → Prop}

/-- between two turns of a loop that keeps the ledger and changes no name but its own and the stored ones -/
def Kp (x : Str) (stored : List Str) (m₀ : Str → Option Value) (news : List (Addr × Obj)) (P : Prop) (m : Str → Option Value) (nx : List (Addr × Obj)) : Prop :=
  nx = news ∧ (∀ z, z ≠ x → stored.contains z = false → m z = m₀ z) ∧ P
theorem kp_end {stored : List Str} {m₀ m' : Str → Option Value} {news own news' : List (Addr × Obj)} {P : Prop} {L : Addr} {h' : Heap} {tk : Nat} {s₁ : Shared} (F : Fr h₀ L h' m') (N : News h₀ L h' news') (hn : ∀ p ∈ news, p ∈ news') (ho : ∀ p ∈ own, p ∈ news')
    (hr : ∀ z, z ≠ x → stored.contains z = false → m' z = m₀ z) (hp : P) : InvEndN h₀ L (Kp x stored m₀ news P) own (news.map (·.1)) s₁ { s₁ with heap := h', toks := tk } :=
  InvEndN.intro F N ⟨rfl, hr, hp⟩ rfl hn ho
theorem kp_fr {L : Addr} {h : Heap} {stored : List Str} {m₀ m₁ : Str → Option Value} {v : Value} (hr : ∀ z, z ≠ x → stored.contains z = false → m₁ z = m₀ z)
    (F : Fr h₀ L h (fun y => if y = x then some v else m₁ y)) : Fr h₀ L h (fun y => if y = x then some v else if stored.contains y then m₁ y else m₀ y) := by
  have e : (fun y => if y = x then some v else if stored.contains y then m₁ y else m₀ y) = fun y => if y = x then some v else m₁ y := by
    funext y
    by_cases hy : y = x
    · rw [if_pos hy, if_pos hy]
    · rw [if_neg hy, if_neg hy]
      cases hs : stored.contains y with
      | true => simp
      | false => simp [hr y hy hs]
  rw [e]; exact F
theorem kp_out {L : Addr} {h : Heap} {stored : List Str} {m₀ m₁ : Str → Option Value} (hr : ∀ z, z ≠ x → stored.contains z = false → m₁ z = m₀ z)
    (F : Fr h₀ L h m₁) : Fr h₀ L h (fun y => if y = x then m₁ y else if stored.contains y then m₁ y else m₀ y) := by
  have e : (fun y => if y = x then m₁ y else if stored.contains y then m₁ y else m₀ y) = m₁ := by
    funext y
    by_cases hy : y = x
    · rw [if_pos hy]
    · rw [if_neg hy]
      cases hs : stored.contains y with
      | true => simp
      | false => simp [hr y hy hs]
  rw [e]; exact F

/-- a loop over what a walker hands out, item by item -/
theorem loop_kp {I : Addr} {fp wr : List Addr} {n : Nat} {P : Nat → Value → Prop} {St : Nat → Heap → Prop} {m₀ : Str → Option Value} {news : List (Addr × Obj)} (stored : List Str) (J : Nat → Prop)
    (W : Walks prog w A I fp wr n P St) (hLf : env.locals ∉ fp) (hwr : ∀ b ∈ wr, h₀.get? b = none) (hnw : ∀ p ∈ news, p.1 ∉ wr) (hfp : ∀ q ∈ news, q.1 ∉ fp) (hst : St 0 s.heap) (F : Fr h₀ env.locals s.heap m₀) (N : News h₀ env.locals s.heap news) (hj : J 0)
    (turn : ∀ i v (u : Str → Option Value) h tk own, i < n → P i v → OwnOff own (news.map (·.1)) → J i → Fr h₀ env.locals h (fun y => if y = x then some v else if stored.contains y then u y else m₀ y) → News h₀ env.locals h (news ++ own) →
      wpAny (model prog w) A (execs body env) (InvPostN h₀ env.locals (Kp x stored m₀ news (J (i + 1))) own (news.map (·.1)) { s with heap := h, toks := tk } Q) E { s with heap := h, toks := tk })
    (done : ∀ (u : Str → Option Value) h tk, J n → Fr h₀ env.locals h (fun y => if y = x then u y else if stored.contains y then u y else m₀ y) → News h₀ env.locals h news → Q .next { s with heap := h, toks := tk }) :
    LoopAtV prog w A h₀ env x body Q E (.ref I) s := by
  refine loop_invN (fun i m nx => Kp x stored m₀ news (J i) m nx) W hLf hwr hnw hfp hst F N ⟨rfl, fun _ _ _ => rfl, hj⟩ ?_ ?_
  · rintro i v m₁ news₁ h tk own hi hP _ hoff ⟨rfl, hr, hJ⟩ F₁ N₁
    exact turn i v m₁ h tk own hi hP hoff hJ (kp_fr hr F₁) N₁
  · rintro m₁ news₁ h tk ⟨rfl, hr, hJ⟩ F₁ N₁
    exact done m₁ h tk hJ (kp_out hr F₁) N₁

/-- over a text's signs -/
theorem loop_text {xt : Str} {tx : Tok} {m₀ : Str → Option Value} {news : List (Addr × Obj)} (stored : List Str) (J : List Nat → Prop)
    (hh : A.handled = none) (F : Fr h₀ env.locals s.heap m₀) (N : News h₀ env.locals s.heap news) (hj : J [])
    (turn : ∀ pre c post t (u : Str → Option Value) h tk own, xt.cps.toList = pre ++ c :: post → OwnOff own (news.map (·.1)) → J pre → Fr h₀ env.locals h (fun y => if y = x then some (.str ⟨#[c]⟩ t) else if stored.contains y then u y else m₀ y) → News h₀ env.locals h (news ++ own) →
      wpAny (model prog w) A (execs body env) (InvPostN h₀ env.locals (Kp x stored m₀ news (J (pre ++ [c]))) own (news.map (·.1)) { s with heap := h, toks := tk } Q) E { s with heap := h, toks := tk })
    (done : ∀ (u : Str → Option Value) h tk, J xt.cps.toList → Fr h₀ env.locals h (fun y => if y = x then u y else if stored.contains y then u y else m₀ y) → News h₀ env.locals h news → Q .next { s with heap := h, toks := tk }) :
    wpAny (model prog w) A (pyIter (.str xt tx)) (fun it s₂ => LoopAtV prog w A h₀ env x body Q E it s₂) E s := by
  refine wpAny_pyIter_str fun o St hW hst => ?_
  have W := hW A hh
  refine loop_kp stored (fun i => J (xt.cps.toList.take i)) W ?_ ?_ ?_ ?_ hst (F.push _) (fun p hp => ⟨Heap.get?_push_of_some _ (N p hp).1, (N p hp).2⟩) (by simpa using hj) ?_ ?_
  · intro hm
    exact absurd F.ns.lt ((List.mem_singleton.mp hm) ▸ Nat.lt_irrefl _)
  · intro b' hb
    rw [List.mem_singleton.mp hb]
    exact next_is_new F
  · intro p hp hI
    exact absurd (Heap.lt_size (N p hp).1) ((List.mem_singleton.mp hI) ▸ Nat.lt_irrefl _)
  · intro p hp hI
    exact absurd (Heap.lt_size (N p hp).1) ((List.mem_singleton.mp hI) ▸ Nat.lt_irrefl _)
  · rintro i v u h tk own hi ⟨n, t, hn, rfl⟩ hoff hJ F₁ N₁
    have hn' : xt.cps.toList[i]? = some n := by simpa using hn
    have hs : xt.cps.toList.take (i + 1) = xt.cps.toList.take i ++ [n] := by simp [List.take_add_one, hn']
    have e : xt.cps.toList = xt.cps.toList.take i ++ n :: xt.cps.toList.drop (i + 1) := by
      have ht := List.take_append_drop (i + 1) xt.cps.toList
      rw [hs, List.append_assoc] at ht
      exact ht.symm
    rw [hs]
    exact turn _ _ _ t u h tk own e hoff hJ F₁ N₁
  · intro u h tk hJ F₁ N₁
    rw [List.take_of_length_le (by simp)] at hJ
    exact done u h tk hJ F₁ N₁

/-- over a list of texts that stands in the ledger; the list itself leaves the ledger for the loop's time -/
theorem loop_strs {l : Addr} {vs : List Value} {xs : List Str} {nn : Nat} {m₀ : Str → Option Value} {news led : List (Addr × Obj)} (stored : List Str) (J : List Str → Prop)
    (hh : A.handled = none) (hl : (l, listOf vs.toArray nn) ∈ led) (hi : StrsAre vs xs) (F : Fr h₀ env.locals s.heap m₀) (Nl : News h₀ env.locals s.heap led) (hs : ∀ p ∈ news, p ∈ led) (hne : ∀ p ∈ news, p.1 ≠ l) (hj : J [])
    (turn : ∀ pre y post t (u : Str → Option Value) h tk own, xs = pre ++ y :: post → OwnOff own (news.map (·.1)) → J pre → Fr h₀ env.locals h (fun z => if z = x then some (.str y t) else if stored.contains z then u z else m₀ z) → News h₀ env.locals h (news ++ own) →
      wpAny (model prog w) A (execs body env) (InvPostN h₀ env.locals (Kp x stored m₀ news (J (pre ++ [y]))) own (news.map (·.1)) { s with heap := h, toks := tk } Q) E { s with heap := h, toks := tk })
    (done : ∀ (u : Str → Option Value) h tk, J xs → Fr h₀ env.locals h (fun y => if y = x then u y else if stored.contains y then u y else m₀ y) → News h₀ env.locals h news → Q .next { s with heap := h, toks := tk }) :
    wpAny (model prog w) A (pyIter (.ref l)) (fun it s₂ => LoopAtV prog w A h₀ env x body Q E it s₂) E s := by
  have N : News h₀ env.locals s.heap news := fun p hp => Nl p (hs p hp)
  have hol : s.heap.get? l = some (listOf vs.toArray nn) := (Nl _ hl).1
  have hls : s.heap.IsList l vs.toArray := ⟨_, hol, rfl, nn, rfl⟩
  have hlI : l ≠ s.heap.objs.size := Nat.ne_of_lt (Heap.lt_size hol)
  refine wpAny_pyIter_list hls ?_
  have W := Walks.list (prog := prog) (w := w) hh s.heap.objs.size l hlI vs.toArray
  refine loop_kp stored (fun i => J (xs.take i)) W ?_ ?_ ?_ ?_ ⟨⟨_, Heap.get?_push_size _ rfl, rfl, rfl⟩, hls.at fun o e => Heap.get?_push_of_some _ e⟩ (F.push _) (fun p hp => ⟨Heap.get?_push_of_some _ (N p hp).1, (N p hp).2⟩) (by simpa using hj) ?_ ?_
  · intro hm
    rcases List.mem_cons.mp hm with e | hm
    · exact absurd F.ns.lt (e ▸ Nat.lt_irrefl _)
    · exact (Nl _ hl).2.1 ((List.mem_singleton.mp hm).symm)
  · intro b hb
    rw [List.mem_singleton.mp hb]
    exact next_is_new F
  · intro p hp hI
    exact absurd (Heap.lt_size (N p hp).1) ((List.mem_singleton.mp hI) ▸ Nat.lt_irrefl _)
  · intro p hp hI
    rcases List.mem_cons.mp hI with e | hI
    · exact absurd (Heap.lt_size (N p hp).1) (e ▸ Nat.lt_irrefl _)
    · exact hne p hp (List.mem_singleton.mp hI)
  · rintro i v u h tk own hin hP hoff hJ F₁ N₁
    have hin' : i < xs.length := by
      have h1 : vs.toArray.size = xs.length := (List.size_toArray ..).trans hi.length
      exact h1 ▸ hin
    obtain ⟨t, hx⟩ := hi.get i xs[i] (List.getElem?_eq_getElem hin')
    have hv : v = .str xs[i] t := by
      have hP' : vs[i]? = some v := (List.getElem?_toArray ..).symm.trans hP
      rw [hx] at hP'; exact (Option.some.inj hP').symm
    subst hv
    have hn : xs[i]? = some xs[i] := List.getElem?_eq_getElem hin'
    have hs' : xs.take (i + 1) = xs.take i ++ [xs[i]] := by rw [List.take_add_one, hn]; rfl
    have e : xs = xs.take i ++ xs[i] :: xs.drop (i + 1) := by
      have ht := List.take_append_drop (i + 1) xs
      rw [hs', List.append_assoc] at ht
      exact ht.symm
    rw [hs']
    exact turn _ _ _ t u h tk own e hoff hJ F₁ N₁
  · intro u h tk hJ F₁ N₁
    have : vs.toArray.size = xs.length := by simp [hi.length]
    rw [this, List.take_length] at hJ
    exact done u h tk hJ F₁ N₁

/-- over a range from nought on -/
theorem loop_range {r : Addr} {b₀ : Int} {t₀ u₀ v₀ : Tok} {n : Nat} {m₀ : Str → Option Value} {news : List (Addr × Obj)} (stored : List Str) (J : Nat → Prop)
    (hh : A.handled = none) (hr : IsRange s.heap r 0 b₀ 1 t₀ u₀ v₀) (hsmall : Builtin.Range.small 0 b₀ 1 = true) (hn : Builtin.Range.rangeSize 0 b₀ 1 = (n : Int)) (F : Fr h₀ env.locals s.heap m₀) (N : News h₀ env.locals s.heap news) (hj : J 0)
    (turn : ∀ i t (u : Str → Option Value) h tk own, i < n → OwnOff own (news.map (·.1)) → J i → Fr h₀ env.locals h (fun y => if y = x then some (.int (i : Nat) t) else if stored.contains y then u y else m₀ y) → News h₀ env.locals h (news ++ own) →
      wpAny (model prog w) A (execs body env) (InvPostN h₀ env.locals (Kp x stored m₀ news (J (i + 1))) own (news.map (·.1)) { s with heap := h, toks := tk } Q) E { s with heap := h, toks := tk })
    (done : ∀ (u : Str → Option Value) h tk, J n → Fr h₀ env.locals h (fun y => if y = x then u y else if stored.contains y then u y else m₀ y) → News h₀ env.locals h news → Q .next { s with heap := h, toks := tk }) :
    wpAny (model prog w) A (pyIter (.ref r)) (fun it s₂ => LoopAtV prog w A h₀ env x body Q E it s₂) E s := by
  refine wpAny_pyIter_range hr hsmall ?_
  have W : Walks prog w A s.heap.objs.size [s.heap.objs.size] [s.heap.objs.size] n (fun i v => i < n ∧ ∃ t, v = .int (0 + (i : Nat) * 1) t)
      (fun i h => IsRangeIter h s.heap.objs.size (0 + (i : Nat) * 1) ((n : Int) - (i : Nat)) 1) := (Walks.range hh _ 0 1 n).bound
  refine loop_kp stored J W ?_ ?_ ?_ ?_ (by show IsRangeIter _ _ _ _ _; rw [hn]; simpa using Heap.get?_push_size _ rfl) (F.push _) (fun p hp => ⟨Heap.get?_push_of_some _ (N p hp).1, (N p hp).2⟩) hj ?_ ?_
  · intro hm
    exact absurd F.ns.lt ((List.mem_singleton.mp hm) ▸ Nat.lt_irrefl _)
  · intro b hb
    rw [List.mem_singleton.mp hb]
    exact next_is_new F
  · intro p hp hI
    exact absurd (Heap.lt_size (N p hp).1) ((List.mem_singleton.mp hI) ▸ Nat.lt_irrefl _)
  · intro p hp hI
    exact absurd (Heap.lt_size (N p hp).1) ((List.mem_singleton.mp hI) ▸ Nat.lt_irrefl _)
  · rintro i v u h tk own hi ⟨_, t, rfl⟩ hoff hJ F₁ N₁
    have e1 : (0 : Int) + (i : Int) * 1 = (i : Int) := by omega
    rw [e1] at F₁
    exact turn i t u h tk own hi hoff hJ F₁ N₁
  · exact done
end
end Mine
end
section -- BaseS
open PySem PySem.W PyProof.Rows PySem.Calls
namespace Mine
/-- the sign at an int's place -/
def cI (x : Str) (j : Int) : Nat := x.cps.getD j.toNat 0
theorem cI_nat (x : Str) (i : Nat) : cI x (i : Int) = cAt x i := rfl
theorem item_cI {x : Str} {j : Int} (h0 : 0 ≤ j) (h1 : j < x.length) : Txt.item x j = ⟨#[cI x j]⟩ := item_meets ⟨h0, h1⟩
section
variable {prog : Program} {w : World} {A : Around} {E : Value → Shared → Prop} {s : Shared} {value slice : PySem.Expr} {x y : Str} {t u : Tok} {c d : Nat} {j : Int} {Q : Value → Shared → Prop}
theorem sub_cI (h0 : 0 ≤ j) (h1 : j < x.length) (hf : j < 2 ^ 62) (h : ∀ t' k, Q (.str ⟨#[cI x j]⟩ t') { s with toks := k })
    (hs : subscripted slice false (.str x t) (.int j u) = operate [.str x t, .int j u] (getItem (.str x t) (.int j u)) := by with_unfolding_all rfl)
    (ht : ∀ r, letTemporaryGo value (.str x t) r = pure () := by intro _; with_unfolding_all rfl) :
    wpAny (model prog w) A (subscriptTail value slice (.str x t) (.int j u)) Q E s :=
  item_str (fitsSsize_of (N := 9223372036854775808) (by omega) (by omega) (Int.le_refl _)) (by omega) h1 (fun _ => by rw [item_cI h0 h1]; exact h _ _) hs ht
theorem eq_one (hy : y = ⟨#[d]⟩) (h : Q (.bool (decide (c = d))) s) : wpAny (model prog w) A (compareOp .Eq (.str ⟨#[c]⟩ t) (.str y u)) Q E s := by
  refine eq_str ?_
  rw [one_eq c d y hy]
  exact h
theorem ne_one (hy : y = ⟨#[d]⟩) (h : Q (.bool (decide (c ≠ d))) s) : wpAny (model prog w) A (compareOp .NotEq (.str ⟨#[c]⟩ t) (.str y u)) Q E s := by
  refine ne_str ?_
  have e : ((⟨#[c]⟩ : Str) != y) = decide (c ≠ d) := by
    unfold bne
    rw [one_eq c d y hy, Bool.eq_iff_iff]
    simp
  rw [e]
  exact h
theorem in_one (p : Nat → Bool) (hy : ∀ c, decide (c ∈ y.cps.toList) = p c) (h : Q (.bool (p c)) s) : wpAny (model prog w) A (compareOp .In (.str ⟨#[c]⟩ t) (.str y u)) Q E s := by
  refine in_str ?_
  rw [one_in, Bool.not_not, hy]
  exact h
theorem notin_one (p : Nat → Bool) (hy : ∀ c, decide (c ∈ y.cps.toList) = p c) (h : Q (.bool (!p c)) s) : wpAny (model prog w) A (compareOp .NotIn (.str ⟨#[c]⟩ t) (.str y u)) Q E s := by
  refine notIn_str ?_
  rw [one_in, hy, Bool.not_not]
  exact h
end
theorem lists_hex1 {y : Str} (hy : y.cps.toList = [48, 49, 50, 51, 52, 53, 54, 55, 56, 57, 65, 66, 67, 68, 69, 70, 97, 98, 99, 100, 101, 102]) (c : Nat) : decide (c ∈ y.cps.toList) = hexC c := hex_in1 c _ hy
theorem lists_hex2 {y : Str} (hy : y.cps.toList = [48, 49, 50, 51, 52, 53, 54, 55, 56, 57, 97, 98, 99, 100, 101, 102, 65, 66, 67, 68, 69, 70]) (c : Nat) : decide (c ∈ y.cps.toList) = hexC c := hex_in2 c _ hy
theorem esc_yes {x : Str} {i : Nat} (h0 : cI x (i : Int) = 61) (h1 : hexC (cI x ((i : Int) + 1)) = true) (h2 : hexC (cI x ((i : Int) + 2)) = true) : escAt x i = true := by
  unfold escAt
  exact Bool.and_eq_true_iff.mpr ⟨Bool.and_eq_true_iff.mpr ⟨beq_iff_eq.mpr h0, h1⟩, h2⟩
theorem esc_no {x : Str} {i : Nat} (h : ¬ cI x (i : Int) = 61 ∨ hexC (cI x ((i : Int) + 1)) = false ∨ hexC (cI x ((i : Int) + 2)) = false) : escAt x i = false := by
  show ((cI x (i : Int) == 61) && hexC (cI x ((i : Int) + 1)) && hexC (cI x ((i : Int) + 2))) = false
  rcases h with h | h | h
  · rw [beq_eq_false_iff_ne.mpr h]; simp
  · rw [h]; simp
  · rw [h]; simp
def endsC (c : Nat) : Bool := c == 13 || c == 11 || c == 12 || c == 28 || c == 29 || c == 30 || c == 133 || c == 8232 || c == 8233
def whiteC (c : Nat) : Bool := c == 32 || c == 9 || c == 12288 || c == 160
def crlfC (c : Nat) : Bool := c == 13 || c == 10
def sptC (c : Nat) : Bool := c == 32 || c == 9
theorem lists_ends {y : Str} (hy : y.cps.toList = [13, 11, 12, 28, 29, 30, 133, 8232, 8233]) (c : Nat) : decide (c ∈ y.cps.toList) = endsC c := by
  rw [hy, Bool.eq_iff_iff]; simp [endsC, or_assoc]
theorem lists_white {y : Str} (hy : y.cps.toList = [32, 9, 12288, 160]) (c : Nat) : decide (c ∈ y.cps.toList) = whiteC c := by
  rw [hy, Bool.eq_iff_iff]; simp [whiteC, or_assoc]
theorem lists_crlf {y : Str} (hy : y.cps.toList = [13, 10]) (c : Nat) : decide (c ∈ y.cps.toList) = crlfC c := by
  rw [hy, Bool.eq_iff_iff]; simp [crlfC]
theorem lists_spt {y : Str} (hy : y.cps.toList = [32, 9]) (c : Nat) : decide (c ∈ y.cps.toList) = sptC c := by
  rw [hy, Bool.eq_iff_iff]; simp [sptC]
theorem con_use {w : World} {f : Addr} {d u : Nat} {vs : List Value} {P : Prop} {R : Tok → Value} (C : Con w f d u vs P R)
    {loose : List Str} {mean : ExcName → Option Value} {mg mb : Str → Option Value} {dp un : Nat} {gd : Option (List Code)} {cn : Str} {cs : Scope} {a : Addr} {ccd : Value} {cl : List (Str × Addr)} {outer : List Env} {A₀ : Around} {base h₀ : Heap} {L : Addr} {m : Str → Option Value} {news : List (Addr × Obj)} {s : Shared} {Q E : Value → Shared → Prop}
    (B : Below A₀ base outer h₀) (F : Fr h₀ L s.heap m) (X : (Mine.hd.heap_39 w.params).In h₀) (N : News h₀ L s.heap news) (T : Top Mine.hd.view_39 loose mean mg mb h₀) (hk : cs.kind = .function) (hd : dp + d < recursionLimit) (hu : un + u < cLine) (hP : P)
    (ret : ∀ (t : Tok) (h' : Heap) (tk' : Nat), Fr h₀ L h' m → News h₀ L h' news → Q (R t) { s with heap := h', toks := tk' }) :
    wpAny (model PySem.Challenge.rw_dm5005_01.row.prog w) (ktrTop dp un gd cn cs L a ccd cl outer) (call (.ref f) vs) Q E s :=
  C _ _ _ _ _ _ _ _ _ _ _ _ _ _ _ _ _ _ _ _ _ _ B F X N T hk hd hu hP ret

/-- the last sign -/
def lastC (x : Str) : Nat := x.cps.getD (x.length - 1) 0
theorem item_last {x : Str} (h : 0 < x.length) : Txt.item x (-1) = ⟨#[lastC x]⟩ := by
  have h1 : x.length - 1 < x.cps.size := by unfold Str.length at *; omega
  have e : seqIndex? (-1) x.length = some (x.length - 1) := by
    unfold seqIndex?
    simp
    omega
  unfold Txt.item Txt.charAt lastC
  rw [e]
  simp [Array.getElem?_eq_getElem h1, Array.getD_eq_getD_getElem?]
section
variable {prog : Program} {w : World} {A : Around} {E : Value → Shared → Prop} {s : Shared} {value slice : PySem.Expr} {x y : Str} {t u : Tok} {c d : Nat} {j : Int} {Q : Value → Shared → Prop}
theorem sub_last (h0 : 0 < x.length) (h : ∀ t' k, Q (.str ⟨#[lastC x]⟩ t') { s with toks := k })
    (hs : subscripted slice false (.str x t) (.int (-1) u) = operate [.str x t, .int (-1) u] (getItem (.str x t) (.int (-1) u)) := by with_unfolding_all rfl)
    (ht : ∀ r, letTemporaryGo value (.str x t) r = pure () := by intro _; with_unfolding_all rfl) :
    wpAny (model prog w) A (subscriptTail value slice (.str x t) (.int (-1) u)) Q E s :=
  item_str (by decide) (by omega) (by omega) (fun _ => by rw [item_last h0]; exact h _ _) hs ht
theorem ne_empty (hy : y = ⟨#[]⟩) (h : Q (.bool (decide (0 < x.length))) s) : wpAny (model prog w) A (compareOp .NotEq (.str x t) (.str y u)) Q E s := by
  refine ne_str ?_
  have e : (x != y) = decide (0 < x.length) := by
    subst hy
    obtain ⟨⟨l⟩⟩ := x
    cases l with
    | nil => rfl
    | cons a r =>
      have h1 : ((⟨⟨a :: r⟩⟩ : Str) == ⟨#[]⟩) = false := by
        rw [Bool.eq_false_iff]
        intro q
        have := beq_iff_eq.mp q
        simp at this
      unfold bne
      rw [h1]
      simp [Str.length]
  rw [e]
  exact h
end
theorem lastC_get {x : Str} (h : 0 < x.length) : x.cps.toList.getLast? = some (lastC x) := by
  have h1 : x.length - 1 < x.cps.size := by unfold Str.length at *; omega
  rw [List.getLast?_eq_getElem?, lastC, Array.getD_eq_getD_getElem?]
  have : x.cps.toList.length - 1 = x.length - 1 := by simp [Str.length]
  rw [this, Array.getElem?_toList, Array.getElem?_eq_getElem h1]
  rfl
theorem getLast_none {x : Str} (h : ¬ 0 < x.length) : x.cps.toList.getLast? = none := by
  have : x.cps.toList = [] := by
    have : x.cps.toList.length = 0 := by simp [Str.length] at *; omega
    exact List.length_eq_zero_iff.mp this
  rw [this]; rfl

def rowBadR (row : List Nat) : Bool := match row.getLast? with
  | some c => c == 61 || whiteC c
  | none => false
def readL (l : List Nat) : Bool := l.all (fun c => !endsC c) && (splitA kD l).all (fun row => !rowBadR row) && !escA kD l
theorem readL_end {l pre post : List Nat} {c : Nat} (e : l = pre ++ c :: post) (h : endsC c = true) : readL l = false := by
  subst e
  simp [readL, h]
theorem readL_row {x : Str} {rows pre post : List Str} {y : Str} (e : rows.map (·.cps.toList) = splitA kD x.cps.toList) (e2 : rows = pre ++ y :: post) (h : rowBadR y.cps.toList = true) : readL x.cps.toList = false := by
  unfold readL
  rw [← e, e2]
  simp [h]
theorem readL_all {x : Str} {rows : List Str} (e : rows.map (·.cps.toList) = splitA kD x.cps.toList) (h1 : ∀ c ∈ x.cps.toList, endsC c = false) (h2 : ∀ y ∈ rows, rowBadR y.cps.toList = false) : readL x.cps.toList = !escA kD x.cps.toList := by
  unfold readL
  rw [← e]
  have a : x.cps.toList.all (fun c => !endsC c) = true := List.all_eq_true.mpr fun c hc => by rw [h1 c hc]; rfl
  have b : (rows.map (·.cps.toList)).all (fun row => !rowBadR row) = true := List.all_eq_true.mpr fun r hr => by
    obtain ⟨y, hy, rfl⟩ := List.mem_map.mp hr
    rw [h2 y hy]; rfl
  rw [a, b]
  simp
theorem rowBad_eq {y : Str} (h : 0 < y.length) : rowBadR y.cps.toList = (lastC y == 61 || whiteC (lastC y)) := by
  unfold rowBadR
  rw [lastC_get h]
theorem rowBad_no {y : Str} (h : 0 < y.length) (h1 : ¬ lastC y = 61) (h2 : whiteC (lastC y) = false) : rowBadR y.cps.toList = false := by
  rw [rowBad_eq h, h2, beq_eq_false_iff_ne.mpr h1]; rfl
theorem rowBad_yes1 {y : Str} (h : 0 < y.length) (h1 : lastC y = 61) : rowBadR y.cps.toList = true := by
  rw [rowBad_eq h, h1]; rfl
theorem rowBad_yes2 {y : Str} (h : 0 < y.length) (h1 : whiteC (lastC y) = true) : rowBadR y.cps.toList = true := by
  rw [rowBad_eq h, h1, Bool.or_true]
theorem rowBad_nil {y : Str} (h : ¬ 0 < y.length) : rowBadR y.cps.toList = false := by
  unfold rowBadR
  rw [getLast_none h]
end Mine
end
section -- PureF
open PySem PySem.W PyProof.Rows
namespace Mine
open Builtin.Str
/-- where a slice's bound falls -/
def clipN (v : Option Int) (d n : Nat) : Nat := match v with
  | none => d
  | some i => (max 0 (min (if i < 0 then i + n else i) (n : Int))).toNat
theorem clip_le (v : Option Int) {d n : Nat} (h : d ≤ n) : clipN v d n ≤ n := by
  unfold clipN
  cases v with
  | none => exact h
  | some i => dsimp only; omega
theorem idx_clip (l u : Option Int) (n : Nat) : strSliceIndices l u 1 n = strSliceIndices (some (clipN l 0 n : Int)) (some (clipN u n n : Int)) 1 n := by
  have hl := clip_le l (Nat.zero_le n)
  have hu := clip_le u (Nat.le_refl n)
  have e1 : max (0 : Int) (min (if ((clipN l 0 n : Nat) : Int) < 0 then (clipN l 0 n : Int) + n else (clipN l 0 n : Int)) n) = (clipN l 0 n : Nat) := by
    rw [if_neg (by omega)]; omega
  have e2 : max (0 : Int) (min (if ((clipN u n n : Nat) : Int) < 0 then (clipN u n n : Int) + n else (clipN u n n : Int)) n) = (clipN u n n : Nat) := by
    rw [if_neg (by omega)]; omega
  unfold strSliceIndices
  simp only [show (1 : Int) > 0 by decide, if_true, e1, e2]
  congr 1
  · cases l with
    | none => rfl
    | some i => simp only [clipN]; omega
  · cases u with
    | none => rfl
    | some i => simp only [clipN]; omega
theorem idx_none {a b n : Nat} (h : b ≤ a) (ha : a ≤ n) : strSliceIndices (some (a : Int)) (some (b : Int)) 1 n = [] := by
  unfold strSliceIndices PySem.sliceRange
  have e1 : max (0 : Int) (min (if ((a : Nat) : Int) < 0 then (a : Int) + n else (a : Int)) n) = (a : Nat) := by
    rw [if_neg (by omega)]; omega
  have e2 : max (0 : Int) (min (if ((b : Nat) : Int) < 0 then (b : Int) + n else (b : Int)) n) = (b : Nat) := by
    rw [if_neg (by omega)]; omega
  simp only [show (1 : Int) > 0 by decide, if_true, e1, e2]
  rw [if_neg (by omega)]
  rfl
theorem slice_gen (x : Str) (l u : Option Int) : (Txt.slice x l u).cps.toList = (x.cps.toList.drop (clipN l 0 x.length)).take (clipN u x.length x.length - clipN l 0 x.length) := by
  have hl := clip_le l (Nat.zero_le x.length)
  have hu := clip_le u (Nat.le_refl x.length)
  have hx : x.cps.toList.length = x.length := by simp [Str.length]
  have key : ((strSliceIndices l u 1 x.length).filterMap (x.cps[·]?)) = (x.cps.toList.drop (clipN l 0 x.length)).take (clipN u x.length x.length - clipN l 0 x.length) := by
    rw [idx_clip]
    by_cases h : clipN l 0 x.length ≤ clipN u x.length x.length
    · exact StrLaws.sliced_plain x h hu
    · rw [idx_none (by omega) hl, show clipN u x.length x.length - clipN l 0 x.length = 0 by omega]
      simp
  unfold Txt.slice
  split
  · rename_i h
    simp only [beq_self_eq_true, Bool.true_and, beq_iff_eq] at h
    rw [idx_clip] at h
    have : clipN l 0 x.length ≤ clipN u x.length x.length ∨ x.length = 0 := by
      by_cases q : clipN l 0 x.length ≤ clipN u x.length x.length
      · exact .inl q
      · right
        rw [idx_none (by omega) hl] at h
        simpa using h.symm
    rcases this with q | q
    · rw [StrLaws.strSliceIndices_plain q hu, List.length_map, List.length_range] at h
      have h1 : clipN l 0 x.length = 0 := by omega
      have h2 : clipN u x.length x.length = x.length := by omega
      rw [h1, h2, List.drop_zero, Nat.sub_zero, List.take_of_length_le (Nat.le_of_eq hx)]
    · have : x.cps.toList = [] := List.length_eq_zero_iff.mp (by omega)
      rw [this]; simp
  · exact key

/-- is this the last sign -/
def tailIs (l : List Nat) (d : Nat) : Bool := match l.getLast? with
  | some c => c == d
  | none => false
theorem slice_tail (x : Str) : (Txt.slice x (some (-1)) none).cps.toList = match x.cps.toList.getLast? with | some c => [c] | none => [] := by
  have hx : x.cps.toList.length = x.length := by simp [Str.length]
  rw [slice_gen]
  by_cases h : x.length = 0
  · have : x.cps.toList = [] := List.length_eq_zero_iff.mp (by omega)
    rw [this]; simp
  · have e1 : clipN (some (-1)) 0 x.length = x.length - 1 := by simp only [clipN]; omega
    have e2 : clipN none x.length x.length = x.length := rfl
    rw [e1, e2, List.getLast?_eq_getElem?, hx]
    have hlt : x.length - 1 < x.cps.toList.length := by omega
    rw [List.drop_eq_getElem_cons hlt, List.getElem?_eq_getElem hlt, show x.length - (x.length - 1) = 1 by omega]
    rfl
theorem tail_eq (x y : Str) (d : Nat) (hy : y = ⟨#[d]⟩) : (Txt.slice x (some (-1)) none == y) = tailIs x.cps.toList d := by
  subst hy
  have h := slice_tail x
  rw [Bool.eq_iff_iff, beq_iff_eq]
  have e : Txt.slice x (some (-1)) none = ⟨#[d]⟩ ↔ (Txt.slice x (some (-1)) none).cps.toList = [d] := by
    constructor
    · intro q; rw [q]
    · intro q; exact Str.ext' (Array.toList_inj.mp q)
  rw [e, h]
  unfold tailIs
  cases x.cps.toList.getLast? with
  | none => simp
  | some c => simp
end Mine
end
section -- BaseT
open PySem PySem.W PyProof.Rows PySem.Calls
namespace Mine
section
variable {prog : Program} {w : World} {A : Around} {E : Value → Shared → Prop} {s : Shared} {value slice : PySem.Expr} {x y : Str} {t u : Tok} {c d : Nat} {j : Int} {Q : Value → Shared → Prop}
theorem eq_tail (hy : y = ⟨#[d]⟩) (h : Q (.bool (tailIs x.cps.toList d)) s) : wpAny (model prog w) A (compareOp .Eq (.str (Txt.slice x (some (-1)) none) t) (.str y u)) Q E s := by
  refine eq_str ?_
  rw [tail_eq x y d hy]
  exact h
theorem ord_one (h : ∀ t' k, Q (.int (c : Nat) t') { s with toks := k }) : wpAny (model prog w) A (call (.builtin "ord") [.str ⟨#[c]⟩ t]) Q E s :=
  ord_of_one (x := ⟨#[c]⟩) rfl (h _ _)
theorem len_txt (hl : x.length ≤ 100000) (h : ∀ t' k, Q (.int (x.length : Nat) t') { s with toks := k }) : wpAny (model prog w) A (call (.builtin "len") [.str x t]) Q E s :=
  SBL.len (by omega) (h _ _)
end
def noWrC (c : Nat) : Bool := c == 8232 || c == 8233 || !(c == 9 || c == 10 || (decide (32 ≤ c) && decide (c ≤ 126) && c != 61) || decide (255 < c))
def rowBadW (m : Nat) (row : List Nat) : Bool := decide (m < row.length) || tailIs row 32 || tailIs row 9
def writL (l : List Nat) (m : Nat) : Bool := l.all (fun c => !noWrC c) && (splitA kD l).all (fun row => !rowBadW m row)
theorem writL_sign {l pre post : List Nat} {c m : Nat} (e : l = pre ++ c :: post) (h : noWrC c = true) : writL l m = false := by
  subst e
  simp [writL, h]
theorem writL_row {x : Str} {rows pre post : List Str} {y : Str} {m : Nat} (e : rows.map (·.cps.toList) = splitA kD x.cps.toList) (e2 : rows = pre ++ y :: post) (h : rowBadW m y.cps.toList = true) : writL x.cps.toList m = false := by
  unfold writL
  rw [← e, e2]
  simp [h]
theorem writL_all {x : Str} {rows : List Str} {m : Nat} (e : rows.map (·.cps.toList) = splitA kD x.cps.toList) (h1 : ∀ c ∈ x.cps.toList, noWrC c = false) (h2 : ∀ y ∈ rows, rowBadW m y.cps.toList = false) : writL x.cps.toList m = true := by
  unfold writL
  rw [← e]
  have a : x.cps.toList.all (fun c => !noWrC c) = true := List.all_eq_true.mpr fun c hc => by rw [h1 c hc]; rfl
  have b : (rows.map (·.cps.toList)).all (fun row => !rowBadW m row) = true := List.all_eq_true.mpr fun r hr => by
    obtain ⟨y, hy, rfl⟩ := List.mem_map.mp hr
    rw [h2 y hy]; rfl
  rw [a, b]
  rfl
theorem noWr_yes {c : Nat} (h : c = 8232 ∨ c = 8233 ∨ (¬ c = 9 ∧ ¬ c = 10 ∧ (¬ 32 ≤ c ∨ ¬ c ≤ 126 ∨ c = 61) ∧ ¬ 255 < c)) : noWrC c = true := by
  unfold noWrC
  simp only [Bool.or_eq_true, Bool.not_eq_true', Bool.or_eq_false_iff, Bool.and_eq_false_iff, beq_iff_eq, beq_eq_false_iff_ne, decide_eq_false_iff_not, bne_eq_false_iff_eq]
  omega
theorem noWr_no {c : Nat} (h1 : ¬ c = 8232) (h2 : ¬ c = 8233) (h : c = 9 ∨ c = 10 ∨ (32 ≤ c ∧ c ≤ 126 ∧ ¬ c = 61) ∨ 255 < c) : noWrC c = false := by
  unfold noWrC
  simp only [Bool.or_eq_false_iff, Bool.not_eq_false', Bool.or_eq_true, Bool.and_eq_true, beq_eq_false_iff_ne, beq_iff_eq, decide_eq_true_eq, bne_iff_ne, ne_eq]
  omega
theorem rowBadW_no {y : Str} {m : Nat} (h : ¬ m < y.length) (h1 : tailIs y.cps.toList 32 = false) (h2 : tailIs y.cps.toList 9 = false) : rowBadW m y.cps.toList = false := by
  unfold rowBadW
  rw [h1, h2]
  have : y.cps.toList.length = y.length := by simp [Str.length]
  simp [this]; omega
theorem rowBadW_yes {y : Str} {m : Nat} (h : m < y.length ∨ tailIs y.cps.toList 32 = true ∨ tailIs y.cps.toList 9 = true) : rowBadW m y.cps.toList = true := by
  unfold rowBadW
  have : y.cps.toList.length = y.length := by simp [Str.length]
  rcases h with h | h | h
  · rw [this, decide_eq_true h]; rfl
  · rw [h]; simp
  · rw [h]; simp
end Mine
end
section -- PureG
open PySem PySem.W PyProof.Rows
namespace Mine
/-! ## the while of decode, step by step -/
abbrev decN (l : List Nat) : List Nat := decT kD 10 unqN l
theorem decN_plain {c : Nat} {r : List Nat} (h : ¬ c = 61) (hr : r ≠ []) : decN (c :: r) = c :: decN r := by
  have e : (kD c).isE = false := by rw [isE_kD]; simpa using h
  cases r with
  | nil => exact absurd rfl hr
  | cons a r =>
    unfold decN
    conv => lhs; unfold decT
    simp only [e, Bool.false_eq_true, if_false, List.isEmpty_cons]
theorem decN_end {c : Nat} (h : ¬ c = 61) : decN [c] = [c, 10] := by
  have e : (kD c).isE = false := by rw [isE_kD]; simpa using h
  unfold decN decT; simp [e]
theorem decN_soft : decN [61] = [] := by decide +kernel
theorem decN_eq2 {a : Nat} : decN [61, a] = 61 :: decN [a] := by
  have e : (kD 61).isE = true := by decide +kernel
  unfold decN
  conv => lhs; unfold decT
  simp only [e, if_true]
theorem decN_eq3 {a b : Nat} {r : List Nat} (h : hexC a = false ∨ hexC b = false) : decN (61 :: a :: b :: r) = 61 :: decN (a :: b :: r) := by
  have e : (kD 61).isE = true := by decide +kernel
  have e2 : ((kD a).isX && (kD b).isX) = false := by
    rw [isX_kD, isX_kD]
    rcases h with h | h <;> rw [h] <;> simp
  unfold decN
  conv => lhs; unfold decT
  simp only [e, if_true, e2, Bool.false_eq_true, if_false]
theorem decN_esc {a b : Nat} {r : List Nat} (ha : hexC a = true) (hb : hexC b = true) : decN (61 :: a :: b :: r) = unqN a b :: (if r.isEmpty then [10] else decN r) := by
  have e : (kD 61).isE = true := by decide +kernel
  have e2 : ((kD a).isX && (kD b).isX) = true := by rw [isX_kD, isX_kD, ha, hb]; rfl
  unfold decN
  conv => lhs; unfold decT
  simp only [e, if_true, e2]
theorem drop_cAt {y : Str} {i : Nat} (h : i < y.length) : y.cps.toList.drop i = cAt y i :: y.cps.toList.drop (i + 1) := by
  have h' : i < y.cps.toList.length := by simpa [Str.length] using h
  rw [List.drop_eq_getElem_cons h']
  congr 1
  unfold cAt
  rw [Array.getD_eq_getD_getElem?, ← Array.getElem?_toList, List.getElem?_eq_getElem h']
  rfl
theorem drop_ne {y : Str} {i : Nat} (h : i < y.length) : y.cps.toList.drop i ≠ [] := by rw [drop_cAt h]; simp
theorem drop_end {y : Str} {i : Nat} (h : y.length ≤ i) : y.cps.toList.drop i = [] := List.drop_eq_nil_of_le (by simpa [Str.length] using h)

/-- what is written so far and what is still to come -/
def Dec (y d : Str) (i : Nat) (R : List Nat) : Prop := d.cps.toList ++ decN (y.cps.toList.drop i) = R
theorem cat1 (d : Str) (c : Nat) : (d ++ ⟨#[c]⟩ : Str).cps.toList = d.cps.toList ++ [c] := by rw [Str.cps_append, Array.toList_append]
theorem dec_plain {y d : Str} {i : Nat} {R : List Nat} (D : Dec y d i R) (h : i + 1 < y.length) (hc : ¬ cAt y i = 61) : Dec y (d ++ ⟨#[cAt y i]⟩) (i + 1) R := by
  unfold Dec at *
  rw [drop_cAt (by omega), decN_plain hc (drop_ne h)] at D
  rw [cat1, List.append_assoc]
  exact D
theorem dec_end {y d : Str} {i : Nat} {R : List Nat} (D : Dec y d i R) (h : i + 1 = y.length) (hc : ¬ cAt y i = 61) : Dec y (d ++ ⟨#[cAt y i]⟩ ++ ⟨#[10]⟩) (i + 1) R := by
  unfold Dec at *
  rw [drop_cAt (by omega), drop_end (by omega), decN_end hc] at D
  rw [drop_end (by omega), cat1, cat1, List.append_assoc, List.append_assoc]
  show d.cps.toList ++ ([cAt y i] ++ ([10] ++ decN [])) = R
  rw [show decN [] = [] from rfl]
  exact D
theorem dec_soft {y d : Str} {i : Nat} {R : List Nat} (D : Dec y d i R) (h : i + 1 = y.length) (hc : cAt y i = 61) : Dec y d (i + 1) R := by
  unfold Dec at *
  rw [drop_cAt (by omega), drop_end (by omega), hc, decN_soft] at D
  rw [drop_end (by omega)]
  exact D
theorem dec_two {y d : Str} {i : Nat} {R : List Nat} (D : Dec y d i R) (h : i + 2 = y.length) (hc : cAt y i = 61) : Dec y (d ++ ⟨#[cAt y i]⟩) (i + 1) R := by
  unfold Dec at *
  rw [drop_cAt (by omega), drop_cAt (i := i + 1) (by omega), drop_end (by omega), hc, decN_eq2] at D
  rw [drop_cAt (i := i + 1) (by omega), drop_end (by omega), cat1, hc, List.append_assoc]
  exact D
theorem dec_three {y d : Str} {i : Nat} {R : List Nat} (D : Dec y d i R) (h : i + 2 < y.length) (hc : cAt y i = 61) (hx : hexC (cAt y (i + 1)) = false ∨ hexC (cAt y (i + 2)) = false) : Dec y (d ++ ⟨#[cAt y i]⟩) (i + 1) R := by
  unfold Dec at *
  rw [drop_cAt (by omega), drop_cAt (i := i + 1) (by omega), drop_cAt (i := i + 1 + 1) (by omega), hc, decN_eq3 hx] at D
  rw [drop_cAt (i := i + 1) (by omega), drop_cAt (i := i + 1 + 1) (by omega), cat1, hc, List.append_assoc]
  exact D
theorem dec_esc {y d : Str} {i : Nat} {R : List Nat} (D : Dec y d i R) (h : i + 3 < y.length) (hc : cAt y i = 61) (h1 : hexC (cAt y (i + 1)) = true) (h2 : hexC (cAt y (i + 2)) = true) : Dec y (d ++ ⟨#[unqN (cAt y (i + 1)) (cAt y (i + 2))]⟩) (i + 3) R := by
  unfold Dec at *
  have hne : (y.cps.toList.drop (i + 1 + 1 + 1)).isEmpty = false := by
    cases e : y.cps.toList.drop (i + 1 + 1 + 1) with
    | nil => exact absurd e (drop_ne (by omega))
    | cons a r => rfl
  rw [drop_cAt (by omega), drop_cAt (i := i + 1) (by omega), drop_cAt (i := i + 1 + 1) (by omega), hc, decN_esc h1 h2, hne, if_neg (by simp)] at D
  rw [cat1, List.append_assoc]
  exact D
theorem dec_escEnd {y d : Str} {i : Nat} {R : List Nat} (D : Dec y d i R) (h : i + 3 = y.length) (hc : cAt y i = 61) (h1 : hexC (cAt y (i + 1)) = true) (h2 : hexC (cAt y (i + 2)) = true) : Dec y (d ++ ⟨#[unqN (cAt y (i + 1)) (cAt y (i + 2))]⟩ ++ ⟨#[10]⟩) (i + 3) R := by
  unfold Dec at *
  have hn : y.cps.toList.drop (i + 1 + 1 + 1) = [] := drop_end (by omega)
  rw [drop_cAt (by omega), drop_cAt (i := i + 1) (by omega), drop_cAt (i := i + 1 + 1) (by omega), hc, decN_esc h1 h2, hn] at D
  rw [drop_end (by omega), cat1, cat1, List.append_assoc, List.append_assoc]
  exact D
theorem dec_out {y d : Str} {i : Nat} {R : List Nat} (D : Dec y d i R) (h : y.length ≤ i) : d.cps.toList = R := by
  unfold Dec at D
  rw [drop_end h] at D
  simpa [decN, decT] using D
theorem slice_three {y : Str} {i : Nat} (h : i + 2 < y.length) (hc : cAt y i = 61) : Txt.slice y (some (i : Int)) (some ((i : Int) + 3)) = ⟨#[61, cAt y (i + 1), cAt y (i + 2)]⟩ := by
  refine Str.ext' (Array.toList_inj.mp ?_)
  rw [slice_gen]
  have e1 : clipN (some (i : Int)) 0 y.length = i := by simp only [clipN]; omega
  have e2 : clipN (some ((i : Int) + 3)) y.length y.length = i + 3 := by simp only [clipN]; omega
  rw [e1, e2, drop_cAt (by omega), drop_cAt (i := i + 1) (by omega), drop_cAt (i := i + 1 + 1) (by omega), hc, show i + 3 - i = 3 by omega]
  rfl
theorem ends_nl (x : Str) : Txt.endswith x ⟨#[10]⟩ = tailIs x.cps.toList 10 := by
  unfold Txt.endswith tailIs
  have hx : x.cps.toList.length = x.length := by simp [Str.length]
  rw [StrLaws.subAt_eq]
  show (decide (0 + 1 ≤ x.length) && ((x.cps.toList.drop (x.length - 1)).take 1 == [10])) = _
  by_cases h : x.length = 0
  · have : x.cps.toList = [] := List.length_eq_zero_iff.mp (by omega)
    rw [this]
    simp
  · have hlt : x.length - 1 < x.cps.toList.length := by omega
    rw [List.getLast?_eq_getElem?, hx, List.getElem?_eq_getElem hlt, List.drop_eq_getElem_cons hlt, decide_eq_true (by omega), Bool.true_and]
    simp
theorem slice_dropLast (x : Str) : (Txt.slice x none (some (-1))).cps.toList = x.cps.toList.dropLast := by
  rw [slice_gen]
  have hx : x.cps.toList.length = x.length := by simp [Str.length]
  have e1 : clipN none 0 x.length = 0 := rfl
  have e2 : clipN (some (-1)) x.length x.length = x.length - 1 := by simp only [clipN]; omega
  rw [e1, e2, List.drop_zero, Nat.sub_zero, List.dropLast_eq_take, hx]
theorem lastIs_N (l : List Nat) : lastIs kD K.isN l = tailIs l 10 := by
  unfold lastIs tailIs
  cases l.getLast? with
  | none => rfl
  | some c => exact kD_isN c
theorem lastIs_R (l : List Nat) : lastIs kD K.isR l = tailIs l 13 := by
  unfold lastIs tailIs
  cases l.getLast? with
  | none => rfl
  | some c => exact kD_isR c
theorem decA_not {x d : Str} (hx : 0 < x.length) (hd : d.cps.toList = (Txt.lines x).flatMap (fun y => decLine kD 10 unqN y.cps.toList)) (h : (tailIs x.cps.toList 10 || tailIs x.cps.toList 13) = true ∨ tailIs d.cps.toList 10 = false) :
    (⟨(decA kD 10 unqN x.cps.toList).toArray⟩ : Str) = d := by
  have e : (linesA kD [] x.cps.toList).flatMap (decLine kD 10 unqN) = d.cps.toList := by
    rw [hd, ← lines_kD, List.flatMap_map]
  have hne : x.cps.toList.isEmpty = false := by
    cases q : x.cps.toList with
    | nil =>
      have h1 : x.cps.toList.length = 0 := by rw [q]; rfl
      have h2 : x.length = 0 := h1
      omega
    | cons a r => rfl
  refine Str.ext' (Array.toList_inj.mp ?_)
  show decA kD 10 unqN x.cps.toList = _
  unfold decA
  simp only [e, hne, lastIs_N, lastIs_R]
  rcases h with h | h <;> simp [h]
theorem decA_cut {x d : Str} (hx : 0 < x.length) (hd : d.cps.toList = (Txt.lines x).flatMap (fun y => decLine kD 10 unqN y.cps.toList)) (h : (tailIs x.cps.toList 10 || tailIs x.cps.toList 13) = false) (h2 : tailIs d.cps.toList 10 = true) :
    (⟨(decA kD 10 unqN x.cps.toList).toArray⟩ : Str) = Txt.slice d none (some (-1)) := by
  have e : (linesA kD [] x.cps.toList).flatMap (decLine kD 10 unqN) = d.cps.toList := by
    rw [hd, ← lines_kD, List.flatMap_map]
  have hne : x.cps.toList.isEmpty = false := by
    cases q : x.cps.toList with
    | nil =>
      have h1 : x.cps.toList.length = 0 := by rw [q]; rfl
      have h2 : x.length = 0 := h1
      omega
    | cons a r => rfl
  refine Str.ext' (Array.toList_inj.mp ?_)
  rw [slice_dropLast]
  show decA kD 10 unqN x.cps.toList = _
  unfold decA
  simp [e, hne, lastIs_N, lastIs_R, h, h2]
theorem decLine_nil {y : Str} (h : (Txt.rstrip y).length = 0) : decLine kD 10 unqN y.cps.toList = [10] := by
  unfold decLine
  rw [← rstrip_toList, List.length_eq_zero_iff.mp (show (Txt.rstrip y).cps.toList.length = 0 by simpa [Str.length] using h)]
  rfl
theorem decLine_some {y : Str} (h : ¬ (Txt.rstrip y).length = 0) : decLine kD 10 unqN y.cps.toList = decN (Txt.rstrip y).cps.toList := by
  unfold decLine
  rw [← rstrip_toList]
  cases q : (Txt.rstrip y).cps.toList with
  | nil => exact absurd (by have : (Txt.rstrip y).cps.toList.length = 0 := by rw [q]; rfl
                            simpa [Str.length] using this) h
  | cons a r => rfl
theorem lines_mem {x y : Str} (h : y ∈ Txt.lines x) : ∀ c ∈ y.cps.toList, c ∈ x.cps.toList := fun c hc => by
  have : y.cps.toList ∈ linesA kD [] x.cps.toList := by rw [← lines_kD]; exact List.mem_map_of_mem h
  exact (linesA_mem _ _ _ this c hc).elim (fun q => by simp at q) id
theorem rstrip_mem {y : Str} : ∀ c ∈ (Txt.rstrip y).cps.toList, c ∈ y.cps.toList := fun c hc => by
  rw [rstrip_toList] at hc
  exact rstripA_mem _ _ hc
theorem cAt_mem {x : Str} {i : Nat} (h : i < x.length) : cAt x i ∈ x.cps.toList := by
  have e := drop_cAt h
  exact List.mem_of_mem_drop (i := i) (by rw [e]; exact List.mem_cons_self ..)
theorem len_cat1 (d : Str) (c : Nat) : (d ++ ⟨#[c]⟩ : Str).length = d.length + 1 := by rw [Str.length_append]; rfl
end Mine
end
section -- BaseW
open PySem PySem.W PyProof.Rows PySem.Calls
namespace Mine
section
variable {prog : Program} {w : World} {A : Around} {E : Value → Shared → Prop} {s : Shared} {env : Env} {h₀ : Heap} {x : Str} {body : List Stmt} {Q : Flow → Shared → Prop}
/-- a loop over what a walker hands out, with a state of one's own -/
theorem loop_gen {σ : Type} {I : Addr} {fp wr : List Addr} {n : Nat} {P : Nat → Value → Prop} {St : Nat → Heap → Prop} {m₀ : Str → Option Value} (Led : σ → List (Addr × Obj)) (ps : σ → List (Str × Value)) (stored : List Str) (J : Nat → σ → Prop) (c₀ : σ)
    (W : Walks prog w A I fp wr n P St) (hLf : env.locals ∉ fp) (hwr : ∀ b ∈ wr, h₀.get? b = none) (hnw : ∀ p ∈ Led c₀, p.1 ∉ wr) (hfp : ∀ q ∈ Led c₀, q.1 ∉ fp) (hst : St 0 s.heap) (F : Fr h₀ env.locals s.heap m₀) (N : News h₀ env.locals s.heap (Led c₀)) (hk : ∀ p ∈ ps c₀, m₀ p.1 = some p.2) (hj : J 0 c₀)
    (turn : ∀ i v (c : σ) (u : Str → Option Value) h tk own, i < n → P i v → OwnOff own ((Led c₀).map (·.1)) → J i c → (Led c).map (·.1) = (Led c₀).map (·.1) → Fr h₀ env.locals h (fun y => if y = x then some v else kstB (fun z => if stored.contains z then u z else m₀ z) (ps c) y) → News h₀ env.locals h (Led c ++ own) →
      wpAny (model prog w) A (execs body env) (InvPostN h₀ env.locals (KstS Led ps (fun _ => True) x stored m₀ (fun _ c => J (i + 1) c) []) own ((Led c₀).map (·.1)) { s with heap := h, toks := tk } Q) E { s with heap := h, toks := tk })
    (done : ∀ (c : σ) (u : Str → Option Value) h tk, J n c → Fr h₀ env.locals h (fun y => if y = x then u y else kstB (fun z => if stored.contains z then u z else m₀ z) (ps c) y) → News h₀ env.locals h (Led c) → Q .next { s with heap := h, toks := tk }) :
    LoopAtV prog w A h₀ env x body Q E (.ref I) s := by
  refine loop_invN (fun i m nx => KstS Led ps (fun _ => True) x stored m₀ (fun _ c => J i c) [] m nx) W hLf hwr hnw hfp hst F N ⟨c₀, rfl, trivial, hk, fun _ _ _ _ => rfl, hj⟩ ?_ ?_
  · rintro i v m₁ news₁ h tk own hi hP ha hoff ⟨c, rfl, _, h1, h2, hJ⟩ F₁ N₁
    exact turn i v c m₁ h tk own hi hP hoff hJ ha (kst_fr h1 h2 F₁) N₁
  · rintro m₁ news₁ h tk ⟨c, rfl, _, h1, h2, hJ⟩ F₁ N₁
    exact done c m₁ h tk hJ (kst_frOut h1 h2 F₁) N₁

/-- over a list of texts of the ledger, with a state of one's own -/
theorem loop_strsG {σ : Type} {l : Addr} {vs : List Value} {xs : List Str} {nn : Nat} {m₀ : Str → Option Value} {led : List (Addr × Obj)} (Led : σ → List (Addr × Obj)) (ps : σ → List (Str × Value)) (stored : List Str) (J : List Str → σ → Prop) (c₀ : σ)
    (hh : A.handled = none) (hl : (l, listOf vs.toArray nn) ∈ led) (hi : StrsAre vs xs) (F : Fr h₀ env.locals s.heap m₀) (Nl : News h₀ env.locals s.heap led) (hs : ∀ p ∈ Led c₀, p ∈ led) (hne : ∀ p ∈ Led c₀, p.1 ≠ l) (hk : ∀ p ∈ ps c₀, m₀ p.1 = some p.2) (hj : J [] c₀)
    (turn : ∀ pre y post t (c : σ) (u : Str → Option Value) h tk own, xs = pre ++ y :: post → OwnOff own ((Led c₀).map (·.1)) → J pre c → (Led c).map (·.1) = (Led c₀).map (·.1) → Fr h₀ env.locals h (fun z => if z = x then some (.str y t) else kstB (fun z => if stored.contains z then u z else m₀ z) (ps c) z) → News h₀ env.locals h (Led c ++ own) →
      wpAny (model prog w) A (execs body env) (InvPostN h₀ env.locals (KstS Led ps (fun _ => True) x stored m₀ (fun _ c => J (pre ++ [y]) c) []) own ((Led c₀).map (·.1)) { s with heap := h, toks := tk } Q) E { s with heap := h, toks := tk })
    (done : ∀ (c : σ) (u : Str → Option Value) h tk, J xs c → Fr h₀ env.locals h (fun y => if y = x then u y else kstB (fun z => if stored.contains z then u z else m₀ z) (ps c) y) → News h₀ env.locals h (Led c) → Q .next { s with heap := h, toks := tk }) :
    wpAny (model prog w) A (pyIter (.ref l)) (fun it s₂ => LoopAtV prog w A h₀ env x body Q E it s₂) E s := by
  have N : News h₀ env.locals s.heap (Led c₀) := fun p hp => Nl p (hs p hp)
  have hol : s.heap.get? l = some (listOf vs.toArray nn) := (Nl _ hl).1
  have hls : s.heap.IsList l vs.toArray := ⟨_, hol, rfl, nn, rfl⟩
  have hlI : l ≠ s.heap.objs.size := Nat.ne_of_lt (Heap.lt_size hol)
  refine wpAny_pyIter_list hls ?_
  have W := Walks.list (prog := prog) (w := w) hh s.heap.objs.size l hlI vs.toArray
  refine loop_gen Led ps stored (fun i => J (xs.take i)) c₀ W ?_ ?_ ?_ ?_ ⟨⟨_, Heap.get?_push_size _ rfl, rfl, rfl⟩, hls.at fun o e => Heap.get?_push_of_some _ e⟩ (F.push _) (fun p hp => ⟨Heap.get?_push_of_some _ (N p hp).1, (N p hp).2⟩) hk (by simpa using hj) ?_ ?_
  · intro hm
    rcases List.mem_cons.mp hm with e | hm
    · exact absurd F.ns.lt (e ▸ Nat.lt_irrefl _)
    · exact (Nl _ hl).2.1 ((List.mem_singleton.mp hm).symm)
  · intro b hb
    rw [List.mem_singleton.mp hb]
    exact next_is_new F
  · intro p hp hI
    exact absurd (Heap.lt_size (N p hp).1) ((List.mem_singleton.mp hI) ▸ Nat.lt_irrefl _)
  · intro p hp hI
    rcases List.mem_cons.mp hI with e | hI
    · exact absurd (Heap.lt_size (N p hp).1) (e ▸ Nat.lt_irrefl _)
    · exact hne p hp (List.mem_singleton.mp hI)
  · rintro i v c u h tk own hin hP hoff hJ ha F₁ N₁
    have hin' : i < xs.length := by
      have h1 : vs.toArray.size = xs.length := (List.size_toArray ..).trans hi.length
      exact h1 ▸ hin
    obtain ⟨t, hx⟩ := hi.get i xs[i] (List.getElem?_eq_getElem hin')
    have hv : v = .str xs[i] t := by
      have hP' : vs[i]? = some v := (List.getElem?_toArray ..).symm.trans hP
      rw [hx] at hP'; exact (Option.some.inj hP').symm
    subst hv
    have hn : xs[i]? = some xs[i] := List.getElem?_eq_getElem hin'
    have hs' : xs.take (i + 1) = xs.take i ++ [xs[i]] := by rw [List.take_add_one, hn]; rfl
    have e : xs = xs.take i ++ xs[i] :: xs.drop (i + 1) := by
      have ht := List.take_append_drop (i + 1) xs
      rw [hs', List.append_assoc] at ht
      exact ht.symm
    rw [hs']
    exact turn _ _ _ t c u h tk own e hoff hJ ha F₁ N₁
  · intro c u h tk hJ F₁ N₁
    have : vs.toArray.size = xs.length := by simp [hi.length]
    rw [this, List.take_length] at hJ
    exact done c u h tk hJ F₁ N₁
end
section
variable {prog : Program} {w : World} {A : Around} {E : Value → Shared → Prop} {s : Shared} {value slice : PySem.Expr} {x y : Str} {t u : Tok} {c d : Nat} {j : Int} {Q : Value → Shared → Prop}
theorem iadd_txt (hsz : x.length + y.length ≤ 100000) (h : ∀ t' k, Q (.str (x ++ y) t') { s with toks := k }) : wpAny (model prog w) A (inplaceOp .Add (.str x t) (.str y u)) Q E s :=
  SB.iadd h (by rw [sizeLine_eq]; omega)
theorem iadd_nl (hy : y = ⟨#[10]⟩) (hsz : x.length + 1 ≤ 100000) (h : ∀ t' k, Q (.str (x ++ ⟨#[10]⟩) t') { s with toks := k }) : wpAny (model prog w) A (inplaceOp .Add (.str x t) (.str y u)) Q E s := by
  subst hy
  exact SB.iadd h (by rw [sizeLine_eq]; show x.length + 1 ≤ _; omega)
theorem iadd_one (hsz : x.length + 1 ≤ 100000) (h : ∀ t' k, Q (.str (x ++ ⟨#[c]⟩) t') { s with toks := k }) : wpAny (model prog w) A (inplaceOp .Add (.str x t) (.str ⟨#[c]⟩ u)) Q E s :=
  SB.iadd h (by rw [sizeLine_eq]; show x.length + 1 ≤ _; omega)
theorem ends_step (hy : y = ⟨#[10]⟩) (h : Q (.bool (tailIs x.cps.toList 10)) s) : wpAny (model prog w) A (call (.builtin "str.endswith") [.str x t, .str y u]) Q E s := by
  subst hy
  refine SC.endswith ?_
  rw [ends_nl]
  exact h
theorem len_nl (hy : y = ⟨#[10]⟩) (h : ∀ t' k, Q (.int (1 : Int) t') { s with toks := k }) : wpAny (model prog w) A (call (.builtin "len") [.str y u]) Q E s := by
  subst hy
  exact SBL.len (by decide) (h _ _)
theorem add_txt (hsz : x.length + y.length ≤ 100000) (h : ∀ t' k, Q (.str (x ++ y) t') { s with toks := k }) : wpAny (model prog w) A (binaryOp .Add (.str x t) (.str y u)) Q E s :=
  SB.add h (by rw [sizeLine_eq]; omega)
end
section
variable {prog : Program} {w : World} {A : Around} {E : Value → Shared → Prop} {s : Shared} {x : Str} {t : Tok} {h₀ : Heap} {L : Addr} {m : Str → Option Value} {news : List (Addr × Obj)} {Q : Value → Shared → Prop}
theorem splitlines_K (hF : Fr h₀ L s.heap m) (hN : News h₀ L s.heap news) (hsz : x.length ≤ 100000)
    (h : ∀ D l h' k, l.map (·.1) = Txt.lines x → StrsAre (strValues l) (l.map (·.1)) → Fr h₀ L h' m → News h₀ L h' ((D, listOf (strValues l).toArray 0) :: news) → (∀ p ∈ news, p.1 < D) → Q (.ref D) { s with heap := h', toks := k }) :
    wpAny (model prog w) A (call (.builtin "str.splitlines") [.str x t]) Q E s :=
  splitlinesNA hF hN (fun l h' k e a _ _ F N => h _ l h' k e a F N fun p hp => Heap.lt_size (hN p hp).1) (by rw [sizeLine_eq]; omega)
end
theorem sum_pre {xs pre post : List Str} {y : Str} (e : xs = pre ++ y :: post) : (pre.map (·.length)).sum + pre.length + (y.length + 1) ≤ (xs.map (·.length)).sum + xs.length := by
  subst e
  simp only [List.map_append, List.map_cons, List.sum_append, List.sum_cons, List.length_append, List.length_cons]
  omega
theorem sum_snoc (pre : List Str) (y : Str) : ((pre ++ [y]).map (·.length)).sum + (pre ++ [y]).length = (pre.map (·.length)).sum + pre.length + (y.length + 1) := by
  simp only [List.map_append, List.map_cons, List.map_nil, List.sum_append, List.sum_cons, List.sum_nil, List.length_append, List.length_cons, List.length_nil]
  omega
theorem crlf_last {x : Str} (h : 0 < x.length) : crlfC (lastC x) = (tailIs x.cps.toList 10 || tailIs x.cps.toList 13) := by
  unfold crlfC tailIs
  rw [lastC_get h, Bool.or_comm]
end Mine
end
section -- C1
open PySem PySem.W PyProof.Rows PySem.Calls
namespace Mine
local macro_rules | `(tactic| walk_at "call type:int") => `(tactic| (k_here; refine call_hex (by first | exact slice13 _ _ _ | assumption) (by assumption) (by assumption) ?_))
local macro_rules | `(tactic| walk_at "call builtin:chr") => `(tactic| (k_here; refine chr_of_range (by omega) (by assumption) ?_))
set_option maxRecDepth 100000 in
set_option maxHeartbeats 4000000 in
theorem con_unquote (w : World) (x : Str) (a b c : Nat) (t : Tok) (hx : x = ⟨#[a, b, c]⟩) (hb : b ∈ figs) (hc : c ∈ figs) : Con w 59 1 8 [.str x t] True (fun t => .str ⟨#[unqN b c]⟩ t) := by
  subst hx
  unfold Con
  k_fill
  w_on
  intro loose mean mg mb dp un gd cn cs ac ccd cl outer A₀ base h₀ L m news s Q E B F X N T hk hd hu hP hret
  have hlt : ((unqN b c : Nat) : Int) ≤ 1114111 := by
    have : ∀ b ∈ figs, ∀ c ∈ figs, unqN b c < 256 := by decide
    have := this b hb c hc
    omega
  refine wpAny_call ?_
  k_dflt cell_enter
  w_strict k_steps
  exact hret _ _ _ (by assumption) (by assumption)
end Mine
end
section -- C2
open PySem PySem.W PyProof.Rows PySem.Calls
namespace Mine
local macro_rules | `(tactic| walk_at "pyIter ref") => `(tactic| (k_here; refine hold ?_))
local macro_rules | `(tactic| walk_at "pyIter str") => `(tactic| (k_here; refine hold ?_))
local macro_rules | `(tactic| walk_at "subscriptTail Name Name str int") => `(tactic| (refine sub_cI (by omega) (by omega) (by omega) ?_; intro _ _))
local macro_rules | `(tactic| walk_at "subscriptTail Name BinOp str int") => `(tactic| (refine sub_cI (by omega) (by omega) (by omega) ?_; intro _ _))
local macro_rules | `(tactic| walk_at "compareOp Eq str str") => `(tactic| (refine eq_one (d := 61) (by decide +kernel) ?_))
local macro_rules | `(tactic| walk_at "compareOp In str str") => `(tactic| (first | refine in_one _ (lists_hex1 (by decide +kernel)) ?_ | fail "no list"))
local macro_rules | `(tactic| walk_at "InvEndN") => `(tactic| (k_here; refine hold ?_))
set_option maxRecDepth 100000 in
set_option maxHeartbeats 4000000 in
theorem con_escape (w : World) (x : Str) (t : Tok) (hx : x.length ≤ 1000) : Con w 110 1 8 [.str x t] True (fun _ => .bool (escA kD x.cps.toList)) := by
  unfold Con
  k_fill
  w_on
  intro loose mean mg mb dp un gd cn cs ac ccd cl outer A₀ base h₀ L m news s Q E B F X N T hk hd hu hP hret
  refine wpAny_call ?_
  k_dflt cell_enter
  w_strict k_steps
  refine Hold.mk ?_
  with_reducible rename IsRange _ _ _ _ _ _ _ _ => rgX
  with_reducible rename Fr _ _ _ _ => lF'
  with_reducible rename News _ _ _ _ => lN'
  with_unfolding_all refine' loop_range [] (fun i => ∀ j, j < i → escAt x j = false) (by rfl) rgX (small_one (by omega) (by omega) (by omega) (by omega)) (rangeSize_nat _ _) lF' lN' (fun j hj => absurd hj (Nat.not_lt_zero _)) ?_ ?_
  · intro i ti u h tk own hi hoff hJ F1 N1
    clear lF' lN' rgX
    have hi' : i + 2 < x.length := by omega
    (try k_fold)
    w_strict k_steps
    all_goals try refine Hold.mk ?_
    all_goals first
      | (refine kp_end F1 (by assumption) (fun p hp => List.mem_append_left _ hp) (fun p hp => List.mem_append_right _ hp) (fun z h1 _ => by simp [h1]) (fun j hj => ?_)
         rcases Nat.lt_succ_iff_lt_or_eq.mp hj with hj | rfl
         · exact hJ j hj
         · exact esc_no (by first | (refine .inl ?_; assumption) | (refine .inr (.inl ?_); assumption) | (refine .inr (.inr ?_); assumption)))
      | (have e : escA kD x.cps.toList = true := esc_true hi' (esc_yes (by assumption) (by assumption) (by assumption))
         rw [e] at hret
         exact hret 0 _ _ (by assumption) (kst_newsOf (l := news ++ own) (by assumption) (fun p hp => List.mem_append_left _ hp)))
  · intro u h tk hJ F1 N1
    clear lF' lN' rgX
    have e : escA kD x.cps.toList = false := esc_false fun j hj => hJ j (by omega)
    (try k_fold)
    w_strict k_steps
    rw [e] at hret
    exact hret 0 _ _ (by assumption) (by assumption)
end Mine
end
section -- C3
open PySem PySem.W PyProof.Rows PySem.Calls
namespace Mine
local macro_rules | `(tactic| walk_at "exec For Name Call cons nil") => `(tactic| (k_here; (with_reducible rename Fr _ _ _ _ => lF'); (with_unfolding_all refine' For_invVF lF' ?k1 ?k2 ?_; (case k1 => exact rfl); (case k2 => exact rfl); k_whole)))
local macro_rules | `(tactic| walk_at "exec For Name Name cons nil") => `(tactic| (k_here; (with_reducible rename Fr _ _ _ _ => lF'); (with_unfolding_all refine' For_invVF lF' ?k1 ?k2 ?_; (case k1 => exact rfl); (case k2 => exact rfl); k_whole)))
local macro_rules | `(tactic| walk_at "pyIter ref") => `(tactic| (k_here; refine hold ?_))
local macro_rules | `(tactic| walk_at "pyIter str") => `(tactic| (k_here; refine hold ?_))
local macro_rules | `(tactic| walk_at "subscriptTail Name UnaryOp str int") => `(tactic| (refine sub_last (by omega) ?_; intro _ _))
local macro_rules | `(tactic| walk_at "compareOp Eq str str") => `(tactic| (refine eq_one (d := 61) (by decide +kernel) ?_))
local macro_rules | `(tactic| walk_at "compareOp NotEq str str") => `(tactic| (refine ne_empty (by decide +kernel) ?_))
local macro_rules | `(tactic| walk_at "compareOp In str str") => `(tactic| (first | refine in_one _ (lists_ends (by decide +kernel)) ?_ | refine in_one _ (lists_white (by decide +kernel)) ?_ | fail "no list"))
local macro_rules | `(tactic| walk_at "call builtin:str.split") => `(tactic| (k_here; refine KSpl.split1 (by k_asm) (by k_asm) (by decide) ?_ (by rw [sizeLine_eq]; omega); intro D' l' h' k' e' a' F' N' l1; (try k_sweep)))
local macro_rules | `(tactic| walk_at "call ref") => `(tactic| (k_here; k_dflt (refine' con_use (con_escape _ _ _ ?kx) ?k1 ?k2 ?k3 ?k4 ?k5 ?kK ?kd ?ku trivial ?_; (case kx => omega); (case k1 => k_asm); (case k2 => k_asm); (case k3 => k_asm); (case k4 => k_asm); (case k5 => k_asm); (case kK => first | exact rfl | assumption); (case kd => ktr_room); (case ku => ktr_units)); intro t9 h9 tk9 F9 N9; (try dsimp only); (try k_fold)))
local macro_rules | `(tactic| walk_at "InvEndN") => `(tactic| (k_here; refine hold ?_))
set_option maxRecDepth 100000 in
set_option maxHeartbeats 4000000 in
theorem con_read (w : World) (x : Str) (t : Tok) (hx : x.length ≤ 1000) : Con w 117 2 16 [.str x t] True (fun _ => .bool (readL x.cps.toList)) := by
  unfold Con
  k_fill
  w_on
  intro loose mean mg mb dp un gd cn cs ac ccd cl outer A₀ base h₀ L m news s Q E B F X N T hk hd hu hP hret
  refine wpAny_call ?_
  k_dflt cell_enter
  w_strict k_steps
  refine Hold.mk ?_
  with_reducible rename Fr _ _ _ _ => lF'
  with_reducible rename News _ _ _ _ => lN'
  with_unfolding_all refine' loop_text [] (fun pre => ∀ c ∈ pre, endsC c = false) (by rfl) lF' lN' (fun c hc => (nomatch hc)) ?_ ?_
  · intro pre c post ti u h tk own he hoff hJ F1 N1
    clear lF' lN'
    (try k_fold)
    w_strict k_steps
    · rw [readL_end he (by assumption)] at hret
      exact hret 0 _ _ (by assumption) (kst_newsOf (l := news ++ own) (by assumption) (fun p hp => List.mem_append_left _ hp))
    · refine Hold.mk ?_
      refine kp_end F1 (by assumption) (fun p hp => List.mem_append_left _ hp) (fun p hp => List.mem_append_right _ hp) (fun z h1 _ => by simp [h1]) (fun c' hc' => ?_)
      rcases List.mem_append.mp hc' with hc' | hc'
      · exact hJ c' hc'
      · rw [List.mem_singleton.mp hc']; assumption
  · intro u h tk hJ F1 N1
    clear lF' lN'
    (try k_fold)
    w_strict k_steps
    refine Hold.mk ?_
    with_reducible rename Fr _ _ _ _ => lF'
    with_reducible rename News _ _ _ _ => lN'
    with_reducible rename StrsAre _ _ => lS'
    with_reducible rename (∀ p ∈ news, p.1 < _) => lLt
    with_reducible rename List.map _ _ = Txt.split _ _ => lE'
    have hE := (congrArg (List.map (fun (y : Str) => y.cps.toList)) lE').trans (split_nl kD kD_isN x _ (by decide +kernel))
    with_unfolding_all refine' loop_strs [] (fun pre => ∀ y ∈ pre, rowBadR y.cps.toList = false) (by rfl) (List.Mem.head _) lS' lF' lN' (fun p hp => List.Mem.tail _ hp) (fun p hp => Nat.ne_of_lt (lLt p hp)) (fun c hc => (nomatch hc)) ?_ ?_
    · intro pre y post ti u2 h2 tk2 own he hoff hJ2 F2 N2
      clear lF' lN'
      (try k_fold)
      w_strict k_steps
      all_goals try refine Hold.mk ?_
      all_goals first
        | (refine kp_end F2 (by assumption) (fun p hp => List.mem_append_left _ hp) (fun p hp => List.mem_append_right _ hp) (fun z h1 _ => by simp [h1]) (fun y' hy' => ?_)
           rcases List.mem_append.mp hy' with hy' | hy'
           · exact hJ2 y' hy'
           · rw [List.mem_singleton.mp hy']
             first
               | exact rowBad_nil (by assumption)
               | exact rowBad_no (by assumption) (by assumption) (by assumption))
        | (rw [readL_row hE he (by first | exact rowBad_yes1 (by assumption) (by assumption) | exact rowBad_yes2 (by assumption) (by assumption))] at hret
           exact hret 0 _ _ (by assumption) (kst_newsOf (l := news ++ own) (by assumption) (fun p hp => List.mem_append_left _ hp)))
    · intro u2 h2 tk2 hJ2 F2 N2
      clear lF' lN'
      (try k_fold)
      w_strict k_steps
      rw [readL_all hE hJ hJ2] at hret
      exact hret 0 _ _ (by assumption) (by assumption)
end Mine
end
section -- C4
open PySem PySem.W PyProof.Rows PySem.Calls
namespace Mine
local macro_rules | `(tactic| walk_at "exec For Name Call cons nil") => `(tactic| (k_here; (with_reducible rename Fr _ _ _ _ => lF'); (with_unfolding_all refine' For_invVF lF' ?k1 ?k2 ?_; (case k1 => exact rfl); (case k2 => exact rfl); k_whole)))
local macro_rules | `(tactic| walk_at "exec For Name Name cons nil") => `(tactic| (k_here; (with_reducible rename Fr _ _ _ _ => lF'); (with_unfolding_all refine' For_invVF lF' ?k1 ?k2 ?_; (case k1 => exact rfl); (case k2 => exact rfl); k_whole)))
local macro_rules | `(tactic| walk_at "pyIter ref") => `(tactic| (k_here; refine hold ?_))
local macro_rules | `(tactic| walk_at "pyIter str") => `(tactic| (k_here; refine hold ?_))
local macro_rules | `(tactic| walk_at "call builtin:ord") => `(tactic| (refine ord_one ?_; intro _ _))
local macro_rules | `(tactic| walk_at "call builtin:len") => `(tactic| (refine len_txt (by omega) ?_; intro _ _))
local macro_rules | `(tactic| walk_at "compareOp Eq str str") => `(tactic| (first | refine eq_one (d := 8232) (by decide +kernel) ?_ | refine eq_one (d := 8233) (by decide +kernel) ?_ | refine eq_one (d := 9) (by decide +kernel) ?_ | refine eq_one (d := 10) (by decide +kernel) ?_ | refine eq_tail (d := 32) (by decide +kernel) ?_ | refine eq_tail (d := 9) (by decide +kernel) ?_))
local macro_rules | `(tactic| walk_at "compareOp NotEq str str") => `(tactic| (refine ne_one (d := 61) (by decide +kernel) ?_))
local macro_rules | `(tactic| walk_at "call builtin:str.split") => `(tactic| (k_here; refine KSpl.split1 (by k_asm) (by k_asm) (by decide) ?_ (by rw [sizeLine_eq]; omega); intro D' l' h' k' e' a' F' N' l1; (try k_sweep)))
local macro_rules | `(tactic| walk_at "InvEndN") => `(tactic| (k_here; refine hold ?_))
set_option maxRecDepth 100000 in
set_option maxHeartbeats 4000000 in
theorem con_written (w : World) (x : Str) (m₁ : Nat) (t t₁ : Tok) (hx : x.length ≤ 1000) : Con w 124 2 16 [.str x t, .int (m₁ : Nat) t₁] True (fun _ => .bool (writL x.cps.toList m₁)) := by
  unfold Con
  k_fill
  w_on
  intro loose mean mg mb dp un gd cn cs ac ccd cl outer A₀ base h₀ L m news s Q E B F X N T hk hd hu hP hret
  refine wpAny_call ?_
  k_dflt cell_enter
  w_strict k_steps
  refine Hold.mk ?_
  with_reducible rename Fr _ _ _ _ => lF'
  with_reducible rename News _ _ _ _ => lN'
  with_unfolding_all refine' loop_text [Str.ofString "number"] (fun pre => ∀ c ∈ pre, noWrC c = false) (by rfl) lF' lN' (fun c hc => (nomatch hc)) ?_ ?_
  · intro pre c post ti u h tk own he hoff hJ F1 N1
    clear lF' lN'
    (try k_fold)
    w_strict k_steps
    all_goals try refine Hold.mk ?_
    all_goals first
      | (refine kp_end (by assumption) (by assumption) (fun p hp => List.mem_append_left _ hp) (fun p hp => List.mem_append_right _ hp) (fun z h1 h3 => by (simp only [List.contains_cons, List.contains_nil, Bool.or_false, beq_eq_false_iff_ne, ne_eq] at h3); simp [h1, h3]) (fun c' hc' => ?_)
         rcases List.mem_append.mp hc' with hc' | hc'
         · exact hJ c' hc'
         · rw [List.mem_singleton.mp hc']
           exact noWr_no (by omega) (by omega) (by omega))
      | (rw [writL_sign he (noWr_yes (by omega))] at hret
         exact hret 0 _ _ (by assumption) (kst_newsOf (l := news ++ own) (by assumption) (fun p hp => List.mem_append_left _ hp)))
  · intro u h tk hJ F1 N1
    clear lF' lN'
    (try k_fold)
    w_strict k_steps
    refine Hold.mk ?_
    with_reducible rename Fr _ _ _ _ => lF'
    with_reducible rename News _ _ _ _ => lN'
    with_reducible rename StrsAre _ _ => lS'
    with_reducible rename (∀ p ∈ news, p.1 < _) => lLt
    with_reducible rename List.map _ _ = Txt.split _ _ => lE'
    have hE := (congrArg (List.map (fun (y : Str) => y.cps.toList)) lE').trans (split_nl kD kD_isN x _ (by decide +kernel))
    have hlen : ∀ y ∈ _, Str.length y ≤ x.length := fun y hy => part_short (x := x) (y := Str.ofString "\n") (lE' ▸ hy)
    with_unfolding_all refine' loop_strs [] (fun pre => ∀ y ∈ pre, rowBadW m₁ y.cps.toList = false) (by rfl) (List.Mem.head _) lS' lF' lN' (fun p hp => List.Mem.tail _ hp) (fun p hp => Nat.ne_of_lt (lLt p hp)) (fun c hc => (nomatch hc)) ?_ ?_
    · intro pre y post ti u2 h2 tk2 own he hoff hJ2 F2 N2
      clear lF' lN'
      have hy1 : y.length ≤ x.length := hlen y (by rw [he]; simp)
      (try k_fold)
      w_strict k_steps
      all_goals try refine Hold.mk ?_
      all_goals first
        | (refine kp_end (by assumption) (by assumption) (fun p hp => List.mem_append_left _ hp) (fun p hp => List.mem_append_right _ hp) (fun z h1 _ => by simp [h1]) (fun y' hy' => ?_)
           rcases List.mem_append.mp hy' with hy' | hy'
           · exact hJ2 y' hy'
           · rw [List.mem_singleton.mp hy']
             exact rowBadW_no (by omega) (by assumption) (by assumption))
        | (rw [writL_row hE he (rowBadW_yes (by first | (refine .inl ?_; omega) | (refine .inr (.inl ?_); assumption) | (refine .inr (.inr ?_); assumption)))] at hret
           exact hret 0 _ _ (by assumption) (kst_newsOf (l := news ++ own) (by assumption) (fun p hp => List.mem_append_left _ hp)))
    · intro u2 h2 tk2 hJ2 F2 N2
      clear lF' lN'
      (try k_fold)
      w_strict k_steps
      rw [writL_all hE hJ hJ2] at hret
      exact hret 0 _ _ (by assumption) (by assumption)
end Mine
end
section -- C5
open PySem PySem.W PyProof.Rows PySem.Calls
namespace Mine
local macro_rules | `(tactic| walk_at "exec For Name Call cons nil") => `(tactic| (k_here; (with_reducible rename Fr _ _ _ _ => lF'); (with_unfolding_all refine' For_invVF lF' ?k1 ?k2 ?_; (case k1 => exact rfl); (case k2 => exact rfl); k_whole)))
local macro_rules | `(tactic| walk_at "pyIter ref") => `(tactic| (k_here; refine hold ?_))
local macro_rules | `(tactic| walk_at "exec While Compare cons nil") => `(tactic| (k_here; refine hold ?_))
local macro_rules | `(tactic| walk_at "call builtin:len") => `(tactic| (first | (refine len_nl (by decide +kernel) ?_; intro _ _) | (refine len_txt (by omega) ?_; intro _ _)))
local macro_rules | `(tactic| walk_at "subscriptTail Name UnaryOp str int") => `(tactic| (refine sub_last (by omega) ?_; intro _ _))
local macro_rules | `(tactic| walk_at "subscriptTail Name Name str int") => `(tactic| (refine sub_cI (by omega) (by omega) (by omega) ?_; intro _ _))
local macro_rules | `(tactic| walk_at "subscriptTail Name BinOp str int") => `(tactic| (refine sub_cI (by omega) (by omega) (by omega) ?_; intro _ _))
local macro_rules | `(tactic| walk_at "compareOp NotEq str str") => `(tactic| (refine ne_one (d := 61) (by decide +kernel) ?_))
local macro_rules | `(tactic| walk_at "compareOp In str str") => `(tactic| (refine in_one _ (lists_hex2 (by decide +kernel)) ?_))
local macro_rules | `(tactic| walk_at "compareOp NotIn str str") => `(tactic| (refine notin_one _ (lists_crlf (by decide +kernel)) ?_))
local macro_rules | `(tactic| walk_at "inplaceOp Add str str") => `(tactic| (first | (refine iadd_nl (by decide +kernel) (by (try simp only [len_cat1]); omega) ?_; intro _ _) | (refine iadd_one (by omega) ?_; intro _ _)))
local macro_rules | `(tactic| walk_at "call builtin:str.splitlines") => `(tactic| (k_here; refine splitlines_K (by k_asm) (by k_asm) (by omega) ?_; intro D' l' h' k' e' a' F' N' l1; (try k_sweep)))
local macro_rules | `(tactic| walk_at "call builtin:str.endswith") => `(tactic| (refine ends_step (by decide +kernel) ?_))
local macro_rules | `(tactic| walk_at "call ref") => `(tactic| (k_here; refine hold ?_))
local macro_rules | `(tactic| walk_at "KswEnd") => `(tactic| (k_here; refine hold ?_))
local macro_rules | `(tactic| walk_at "InvEndN") => `(tactic| (k_here; refine hold ?_))
set_option maxRecDepth 100000 in
set_option maxHeartbeats 4000000 in
theorem con_decode (w : World) (x : Str) (t : Tok) (hx : x.length ≤ 100) (hf : ∀ c ∈ x.cps.toList, hexC c = true → c ∈ figs) : Con w 87 2 16 [.str x t] True (fun t => .str ⟨(decA kD 10 unqN x.cps.toList).toArray⟩ t) := by
  unfold Con
  k_fill
  w_on
  intro loose mean mg mb dp un gd cn cs ac ccd cl outer A₀ base h₀ L m news s Q E B F X N T hk hd hu hP hret
  refine wpAny_call ?_
  k_dflt (refine' code_def ?k1 ?k2 ?k3 ?k4 ?k5 ?kA ?kF ?kK ?k6 ?k7 ?k8 ?k9 ?kB ?_ ?c2 ?c3 ?c4 ?c5; (case kA => exact rfl); (case kF => exact rfl); (case kK => assumption); (case k1 => k_asm); (case k2 => k_asm); (case k3 => k_asm); (case k4 => k_asm); (case k5 => k_asm); (case k6 => k_is); (case k7 => k_is); (case k8 => ktr_room); (case k9 => exact binds_K (by k_in) rfl (by k_is) rfl rfl rfl); (case c5 => decide); (case kB => exact locs rfl); (case c2 => exact rfl); (case c3 => exact rfl); (case c4 => exact rfl); k_whole; intro g' L' h' FG' F' N' B' X' T'; (try dsimp only); (try k_lift B'); (try k_fold))
  w_strict k_steps
  · refine Hold.mk ?_
    with_reducible rename Fr _ _ _ _ => lF'
    with_reducible rename News _ _ _ _ => lN'
    with_reducible rename StrsAre _ _ => lS'
    with_reducible rename (∀ p ∈ news, p.1 < _) => lLt
    with_reducible rename List.map _ _ = Txt.lines _ => lE'
    have hW := StrLaws.lines_weight x
    rw [← lE'] at hW
    with_unfolding_all refine' loop_strsG (σ := Str × PySem.Tok) (fun _ => news) (fun c => [(Str.ofString "decoded", Value.str c.1 c.2)]) [Str.ofString "i", Str.ofString "n", Str.ofString "c"] (fun pre c => c.1.cps.toList = pre.flatMap (fun y => decLine kD 10 unqN y.cps.toList) ∧ c.1.length ≤ 3 * ((pre.map (·.length)).sum + pre.length)) (Str.ofString "", _) (by rfl) (List.Mem.head _) lS' lF' lN' (fun p hp => List.Mem.tail _ hp) (fun p hp => Nat.ne_of_lt (lLt p hp)) ?hk ?hj ?_ ?_
    case hk => kst_all
    case hj => exact ⟨rfl, Nat.zero_le _⟩
    · intro pre y post ti c u2 h2 tk2 own he hoff hJ ha F2 N2
      obtain ⟨d, td⟩ := c
      obtain ⟨hJ1, hJ2⟩ := hJ
      dsimp only [kstB] at F2
      clear lF' lN'
      have hs1 := sum_pre he
      have hd : d.length ≤ 303 := by (try dsimp only at hJ2); omega
      have hy : y.length ≤ 100 := by omega
      have hfig : ∀ j, j < (Txt.rstrip y).length → hexC (cAt (Txt.rstrip y) j) = true → cAt (Txt.rstrip y) j ∈ figs := fun j hj => hf _ (lines_mem (y := y) (lE' ▸ he ▸ by simp) _ (rstrip_mem _ (cAt_mem hj)))
      (try k_fold)
      w_strict k_steps
      · refine Hold.mk ?_
        with_reducible rename Fr _ _ _ _ => lF'
        with_reducible rename News _ _ _ _ => lN'
        have hn0 : ¬ (Txt.rstrip y).length = 0 := by omega
        have hrl : (Txt.rstrip y).length ≤ y.length := by with_reducible assumption
        (try dsimp only at hJ2)
        with_unfolding_all refine' ksw_while (σ := (Nat × PySem.Tok) × (Str × PySem.Tok)) (fun _ => news ++ own) (fun c => [(Str.ofString "i", Value.int (c.1.1 : Nat) c.1.2), (Str.ofString "decoded", Value.str c.2.1 c.2.2)]) (fun _ => True) [Str.ofString "c"] (fun c => c.1.1 ≤ (Txt.rstrip y).length ∧ Dec (Txt.rstrip y) c.2.1 c.1.1 (d.cps.toList ++ decN (Txt.rstrip y).cps.toList) ∧ c.2.1.length ≤ d.length + 2 * c.1.1) (fun c => (Txt.rstrip y).length - c.1.1) ((0, _), (d, _)) lF' lN' trivial ?hk ?hp ?_
        case hk => kst_all
        case hp => exact ⟨Nat.zero_le _, rfl, Nat.le_add_right _ _⟩
        intro c u3 h3 tk3 _ hP F3 N3
        obtain ⟨⟨i, t₁⟩, ⟨d', t₂⟩⟩ := c
        obtain ⟨hi, hD, hl⟩ := hP
        dsimp only at hi hD hl
        clear lF' lN'
        dsimp only [kstB] at F3
        have hd' : d'.length ≤ 503 := by omega
        (try k_fold)
        w_strict k_steps
        · refine' Hold.mk (ksw_end ((i + 1, _), (d' ++ ⟨#[cAt (Txt.rstrip y) i]⟩ ++ ⟨#[10]⟩, _)) (by k_asm) (by k_asm) (fun p hp => hp) trivial ?q1k1 (by ksw_same) ⟨?q1k2, ?q1k3, ?q1k4⟩ ?q1k5)
          case q1k1 => kst_all
          case q1k2 => show i + 1 ≤ _; omega
          case q1k3 => exact dec_end hD (by omega) (show ¬ cI (Txt.rstrip y) (i : Int) = 61 by with_reducible assumption)
          case q1k4 => show Str.length _ ≤ d.length + 2 * (i + 1); rw [len_cat1, len_cat1]; omega
          case q1k5 => show _ - (i + 1) < _ - i; omega
        · refine' Hold.mk (ksw_end ((i + 1, _), (d' ++ ⟨#[cAt (Txt.rstrip y) i]⟩, _)) (by k_asm) (by k_asm) (fun p hp => hp) trivial ?q2k1 (by ksw_same) ⟨?q2k2, ?q2k3, ?q2k4⟩ ?q2k5)
          case q2k1 => kst_all
          case q2k2 => show i + 1 ≤ _; omega
          case q2k3 => exact dec_plain hD (by omega) (show ¬ cI (Txt.rstrip y) (i : Int) = 61 by with_reducible assumption)
          case q2k4 => show Str.length _ ≤ d.length + 2 * (i + 1); rw [len_cat1]; omega
          case q2k5 => show _ - (i + 1) < _ - i; omega
        · refine' Hold.mk (ksw_end ((i + 1, _), (d', _)) (by k_asm) (by k_asm) (fun p hp => hp) trivial ?q3k1 (by ksw_same) ⟨?q3k2, ?q3k3, ?q3k4⟩ ?q3k5)
          case q3k1 => kst_all
          case q3k2 => show i + 1 ≤ _; omega
          case q3k3 => exact dec_soft hD (by omega) (Decidable.not_not.mp (show ¬ cI (Txt.rstrip y) (i : Int) ≠ 61 by with_reducible assumption))
          case q3k4 => show Str.length d' ≤ d.length + 2 * (i + 1); omega
          case q3k5 => show _ - (i + 1) < _ - i; omega
        · have h61 : cAt (Txt.rstrip y) i = 61 := Decidable.not_not.mp (show ¬ cI (Txt.rstrip y) (i : Int) ≠ 61 by with_reducible assumption)
          have hlt : i + 2 < (Txt.rstrip y).length := by omega
          have hx1 : hexC (cAt (Txt.rstrip y) (i + 1)) = true := (show hexC (cI (Txt.rstrip y) ((i : Int) + 1)) = true by with_reducible assumption)
          have hx2 : hexC (cAt (Txt.rstrip y) (i + 2)) = true := (show hexC (cI (Txt.rstrip y) ((i : Int) + 2)) = true by with_reducible assumption)
          refine Hold.mk ?_
          k_dflt (refine' con_use (con_unquote _ _ 61 (cAt (Txt.rstrip y) (i + 1)) (cAt (Txt.rstrip y) (i + 2)) _ (slice_three hlt h61) (hfig _ (by omega) hx1) (hfig _ (by omega) hx2)) ?k1 ?k2 ?k3 ?k4 ?k5 ?kK ?kd ?ku trivial ?_; (case k1 => k_asm); (case k2 => k_asm); (case k3 => k_asm); (case k4 => k_asm); (case k5 => k_asm); (case kK => first | exact rfl | assumption); (case kd => ktr_room); (case ku => ktr_units))
          intro t9 h9 tk9 F9 N9
          (try dsimp only)
          (try k_fold)
          w_strict k_steps
          · refine' Hold.mk (ksw_end ((i + 3, _), (d' ++ ⟨#[unqN (cAt (Txt.rstrip y) (i + 1)) (cAt (Txt.rstrip y) (i + 2))]⟩ ++ ⟨#[10]⟩, _)) (by k_asm) (by k_asm) (fun p hp => hp) trivial ?q4k1 (by ksw_same) ⟨?q4k2, ?q4k3, ?q4k4⟩ ?q4k5)
            case q4k1 => kst_all
            case q4k2 => show i + 3 ≤ _; omega
            case q4k3 => exact dec_escEnd hD (by omega) h61 hx1 hx2
            case q4k4 => show Str.length _ ≤ d.length + 2 * (i + 3); rw [len_cat1, len_cat1]; omega
            case q4k5 => show _ - (i + 3) < _ - i; omega
          · refine' Hold.mk (ksw_end ((i + 3, _), (d' ++ ⟨#[unqN (cAt (Txt.rstrip y) (i + 1)) (cAt (Txt.rstrip y) (i + 2))]⟩, _)) (by k_asm) (by k_asm) (fun p hp => hp) trivial ?q5k1 (by ksw_same) ⟨?q5k2, ?q5k3, ?q5k4⟩ ?q5k5)
            case q5k1 => kst_all
            case q5k2 => show i + 3 ≤ _; omega
            case q5k3 => exact dec_esc hD (by omega) h61 hx1 hx2
            case q5k4 => show Str.length _ ≤ d.length + 2 * (i + 3); rw [len_cat1]; omega
            case q5k5 => show _ - (i + 3) < _ - i; omega
        · exfalso; omega
        · refine' Hold.mk (ksw_end ((i + 1, _), (d' ++ ⟨#[cAt (Txt.rstrip y) i]⟩, _)) (by k_asm) (by k_asm) (fun p hp => hp) trivial ?q6k1 (by ksw_same) ⟨?q6k2, ?q6k3, ?q6k4⟩ ?q6k5)
          case q6k1 => kst_all
          case q6k2 => show i + 1 ≤ _; omega
          case q6k3 => exact dec_three hD (by omega) (Decidable.not_not.mp (show ¬ cI (Txt.rstrip y) (i : Int) ≠ 61 by with_reducible assumption)) (.inr (show hexC (cI (Txt.rstrip y) ((i : Int) + 2)) = false by with_reducible assumption))
          case q6k4 => show Str.length _ ≤ d.length + 2 * (i + 1); rw [len_cat1]; omega
          case q6k5 => show _ - (i + 1) < _ - i; omega
        · exfalso; omega
        · refine' Hold.mk (ksw_end ((i + 1, _), (d' ++ ⟨#[cAt (Txt.rstrip y) i]⟩, _)) (by k_asm) (by k_asm) (fun p hp => hp) trivial ?q7k1 (by ksw_same) ⟨?q7k2, ?q7k3, ?q7k4⟩ ?q7k5)
          case q7k1 => kst_all
          case q7k2 => show i + 1 ≤ _; omega
          case q7k3 => exact dec_three hD (by omega) (Decidable.not_not.mp (show ¬ cI (Txt.rstrip y) (i : Int) ≠ 61 by with_reducible assumption)) (.inl (show hexC (cI (Txt.rstrip y) ((i : Int) + 1)) = false by with_reducible assumption))
          case q7k4 => show Str.length _ ≤ d.length + 2 * (i + 1); rw [len_cat1]; omega
          case q7k5 => show _ - (i + 1) < _ - i; omega
        · exfalso; omega
        · refine' Hold.mk (ksw_end ((i + 1, _), (d' ++ ⟨#[cAt (Txt.rstrip y) i]⟩, _)) (by k_asm) (by k_asm) (fun p hp => hp) trivial ?q8k1 (by ksw_same) ⟨?q8k2, ?q8k3, ?q8k4⟩ ?q8k5)
          case q8k1 => kst_all
          case q8k2 => show i + 1 ≤ _; omega
          case q8k3 => exact dec_two hD (by omega) (Decidable.not_not.mp (show ¬ cI (Txt.rstrip y) (i : Int) ≠ 61 by with_reducible assumption))
          case q8k4 => show Str.length _ ≤ d.length + 2 * (i + 1); rw [len_cat1]; omega
          case q8k5 => show _ - (i + 1) < _ - i; omega
        · have hq : d'.cps.toList = d.cps.toList ++ decN (Txt.rstrip y).cps.toList := dec_out hD (by omega)
          refine' Hold.mk (kst_end (d', _) (by k_asm) (by k_asm) (fun p hp => List.mem_append_left _ hp) (fun p hp => List.mem_append_right _ hp) rfl trivial ?q9k1 (by kst_same) ⟨?q9k2, ?q9k3⟩)
          case q9k1 => kst_all
          case q9k2 => rw [List.flatMap_append, ← hJ1, List.flatMap_singleton, decLine_some hn0]; exact hq
          case q9k3 => rw [sum_snoc]; show Str.length d' ≤ _; omega
      · refine' Hold.mk (kst_end (d ++ ⟨#[10]⟩, _) (by k_asm) (by k_asm) (fun p hp => List.mem_append_left _ hp) (fun p hp => List.mem_append_right _ hp) rfl trivial ?q10k1 (by kst_same) ⟨?q10k2, ?q10k3⟩)
        case q10k1 => kst_all
        case q10k2 => rw [List.flatMap_append, ← hJ1, List.flatMap_singleton, decLine_nil (by omega)]; exact cat1 d 10
        case q10k3 => rw [sum_snoc]; show Str.length (d ++ ⟨#[10]⟩) ≤ _; rw [len_cat1]; (try dsimp only at hJ2); omega
    · intro c u2 h2 tk2 hJ F2 N2
      obtain ⟨d, td⟩ := c
      clear lF' lN'
      have hx0 : 0 < x.length := by omega
      have hc := crlf_last hx0
      have hJ1 := hJ.1
      dsimp only at hJ1
      rw [lE'] at hJ1
      (try k_fold)
      w_strict k_steps
      · rw [decA_not hx0 hJ1 (.inl (by rw [← hc]; with_reducible assumption))] at hret
        exact hret _ _ _ (by assumption) (by assumption)
      · rw [decA_cut hx0 hJ1 (by rw [← hc]; with_reducible assumption) (by with_reducible assumption)] at hret
        exact hret _ _ _ (by assumption) (by assumption)
      · rw [decA_not hx0 hJ1 (.inr (by with_reducible assumption))] at hret
        exact hret _ _ _ (by assumption) (by assumption)
  · have e : x.cps.toList = [] := List.length_eq_zero_iff.mp (by simp [Str.length] at *; omega)
    have e2 : x = ⟨(decA kD 10 unqN x.cps.toList).toArray⟩ := by
      rw [e]
      exact Str.ext' (Array.toList_inj.mp (by rw [e]; rfl))
    rw [← e2] at hret
    exact hret _ _ _ (by assumption) (by assumption)
end Mine
end
section -- BaseX
open PySem PySem.W PyProof.Rows PySem.Calls
set_option maxRecDepth 100000
namespace Mine
theorem pat_getattribute : typeLookup (.type "re.Pattern") "__getattribute__" = pure (some (.builtin "object.__getattribute__")) := by rw [typeLookup_type, builtinLookup_eq_fast]; kernel_rfl
theorem pat_getattr : typeLookup (.type "re.Pattern") "__getattr__" = pure none := by rw [typeLookup_type, builtinLookup_eq_fast]; kernel_rfl
theorem mat_getattribute : typeLookup (.type "re.Match") "__getattribute__" = pure (some (.builtin "object.__getattribute__")) := by rw [typeLookup_type, builtinLookup_eq_fast]; kernel_rfl
theorem mat_getattr : typeLookup (.type "re.Match") "__getattr__" = pure none := by rw [typeLookup_type, builtinLookup_eq_fast]; kernel_rfl
theorem canon_obj : (Manifest.canonical "object.__getattribute__" != "object.__getattribute__") = false := by decide +kernel
theorem type_sub : typeOf (.builtin "re.Pattern.sub") = pure (.type "method_descriptor") := by show builtinType _ = _; rw [builtinType_eq_fast]; kernel_rfl
theorem type_group : typeOf (.builtin "re.Match.group") = pure (.type "method_descriptor") := by show builtinType _ = _; rw [builtinType_eq_fast]; kernel_rfl
theorem slot_sub : Slot "re.Pattern" "sub" "re.Pattern.sub" :=
  .of (owner := "re.Pattern") (n := "sub") (by rw [typeLookup_type, builtinLookup_eq_fast]; kernel_rfl) (by decide +kernel) (by decide +kernel) (by decide +kernel)
    (by first | exact .inl (by decide +kernel) | exact .inr (by decide +kernel)) (by rw [isSubtype_type]; kernel_rfl)
theorem slot_group : Slot "re.Match" "group" "re.Match.group" :=
  .of (owner := "re.Match") (n := "group") (by rw [typeLookup_type, builtinLookup_eq_fast]; kernel_rfl) (by decide +kernel) (by decide +kernel) (by decide +kernel)
    (by first | exact .inl (by decide +kernel) | exact .inr (by decide +kernel)) (by rw [isSubtype_type]; kernel_rfl)
theorem slot_translate : Slot "str" "translate" "str.translate" :=
  .of (owner := "str") (n := "translate") (by rw [typeLookup_type, builtinLookup_eq_fast]; kernel_rfl) (by decide +kernel) (by decide +kernel) (by decide +kernel)
    (by first | exact .inl (by decide +kernel) | exact .inr (by decide +kernel)) (by rw [isSubtype_type]; kernel_rfl)
theorem entry_sub : entryFor table "re.Pattern.sub" = some Builtin.«re.Pattern.sub» := entryFor_of_tree (by kernel_rfl)
theorem entry_subLoop : entryFor table "re.Pattern.sub.loop" = some Builtin.«re.Pattern.sub.loop» := entryFor_of_tree (by kernel_rfl)
theorem entry_group : entryFor table "re.Match.group" = some Builtin.«re.Match.group» := entryFor_of_tree (by kernel_rfl)
theorem entry_translate : entryFor table "str.translate" = some Builtin.«str.translate» := entryFor_of_tree (by kernel_rfl)
theorem args_sub (a b c : Value) : argsOk "re.Pattern.sub" ⟨[a, b, c], []⟩ := by unfold argsOk; kernel_rfl
theorem args_group (a b : Value) : argsOk "re.Match.group" ⟨[a, b], []⟩ := by unfold argsOk; kernel_rfl
theorem args_translate (a b : Value) : argsOk "str.translate" ⟨[a, b], []⟩ := by unfold argsOk; kernel_rfl
theorem plain_subLoop : plainId "re.Pattern.sub.loop" = true := by decide +kernel
section
variable {M : Model} {A : Around} {E : Value → Shared → Prop} {s : Shared}
theorem method_obj {T id : String} {name : Str} {a : Addr} {o : Obj} {pl : Sem Bool} {Q : Value × List Value → Shared → Prop} (ho : s.heap.get? a = some o) (hc : o.cls = .type T) (hd : o.dict = none)
    (h1 : typeLookup (.type T) "__getattribute__" = pure (some (.builtin "object.__getattribute__"))) (h2 : typeLookup (.type T) "__getattr__" = pure none) (sl : Slot T name id) (ht : typeOf (.builtin id) = pure (.type "method_descriptor"))
    (h : Q (.builtin id, [.ref a]) s) : wpAny M A (getMethod (.ref a) name pl) Q E s := by
  have hT : s.TypeIs (.ref a) T := ⟨o, ho, hc⟩
  unfold getMethod
  refine wpAny_bind (wpAny_specialOf hT h1 ?_)
  show wpAny M A (if (Manifest.canonical "object.__getattribute__" != "object.__getattribute__") = true then _ else _) Q E s
  rw [canon_obj, if_neg Bool.false_ne_true]
  refine wpAny_bind (wpAny_specialOf hT h2 ?_)
  refine wpAny_bind (wpAny_specialOf hT sl.lookup ?_)
  refine wpAny_bind (wpAny_of_eq ht ?_)
  refine wpAny_bind (wpAny_loadPart ho ?_)
  rw [hd]
  exact wpAny_bind (wpAny_rule (wpAny_pure h))
end
end Mine
end
section -- Eng
open PySem PySem.W PyProof.Rows PySem.Calls
set_option maxRecDepth 100000
namespace Mine
open PySem.Sre
set_option linter.unusedSimpArgs false
def hcode : Array Nat := #[14, 8, 1, 3, 3, 1, 1, 61, 0, 16, 61, 24, 16, 2, 2, 13, 11, 9, 0, 67043328, 126, 126, 0, 0, 0, 0, 0, 1, 1]
theorem exec_lit_no (m : M) (hw : m.code.getD m.pc 0 = 16) (hp : m.pos < m.lim) (ha : (m.text.getD m.pos 0 == m.code.getD (m.pc + 1) 0) = false) : m.exec = { m with seen := m.seen.add 16, answer := some false } := by
  have e : ops[m.code.getD m.pc 0]? = some .LITERAL := by rw [hw]; rfl
  have h2 : ¬ m.pos ≥ m.lim := by omega
  unfold M.exec M.word
  simp only [Nat.add_zero, e]
  simp only [hw]
  rw [if_neg h2]
  unfold accepts
  simp only [e, ha]
  rfl
theorem exec_lit_yes (m : M) (hw : m.code.getD m.pc 0 = 16) (hp : m.pos < m.lim) (ha : (m.text.getD m.pos 0 == m.code.getD (m.pc + 1) 0) = true) : m.exec = { m with seen := m.seen.add 16, pc := m.pc + 2, pos := m.pos + 1 } := by
  have e : ops[m.code.getD m.pc 0]? = some .LITERAL := by rw [hw]; rfl
  have h2 : ¬ m.pos ≥ m.lim := by omega
  unfold M.exec M.word
  simp only [Nat.add_zero, e]
  simp only [hw]
  rw [if_neg h2]
  unfold accepts
  simp only [e, ha]
  unfold itemWidth
  simp only [e]
theorem exec_lit_end (m : M) (hw : m.code.getD m.pc 0 = 16) (hp : m.lim ≤ m.pos) : m.exec = { m with seen := m.seen.add 16, answer := some false } := by
  have e : ops[m.code.getD m.pc 0]? = some .LITERAL := by rw [hw]; rfl
  unfold M.exec M.word
  simp only [Nat.add_zero, e]
  simp only [hw]
  rw [if_pos hp]
  rfl
theorem exec_rep_room (m : M) (hw : m.code.getD m.pc 0 = 24) (hp : ((m.code.getD (m.pc + 2) 0 : Nat) : Int) > (m.lim : Int) - m.pos) : m.exec = { m with seen := m.seen.add 24, answer := some false } := by
  have e : ops[m.code.getD m.pc 0]? = some .REPEAT_ONE := by rw [hw]; rfl
  unfold M.exec M.word
  simp only [Nat.add_zero, e]
  simp only [hw]
  show (if ((m.code.getD (m.pc + 2) 0 : Nat) : Int) > (m.lim : Int) - m.pos then _ else _) = _
  rw [if_pos hp]
  rfl
theorem exec_rep_no (m : M) {n : Nat} {sn : Sre.Seen} (hw : m.code.getD m.pc 0 = 24) (hp : ¬ ((m.code.getD (m.pc + 2) 0 : Nat) : Int) > (m.lim : Int) - m.pos)
    (hr : Sre.run m.code m.text (m.pc + 4) (min (m.code.getD (m.pc + 3) 0) ((m.lim : Int) - m.pos).toNat) m.pos 0 ((m.seen.add 24).add (m.code.getD (m.pc + 4) 0)) = .ok (n, sn)) (hn : n < m.code.getD (m.pc + 2) 0) : m.exec = { m with seen := sn, answer := some false } := by
  have e : ops[m.code.getD m.pc 0]? = some .REPEAT_ONE := by rw [hw]; rfl
  unfold M.exec M.word
  simp only [Nat.add_zero, e]
  simp only [hw]
  show (if ((m.code.getD (m.pc + 2) 0 : Nat) : Int) > (m.lim : Int) - m.pos then _ else _) = _
  rw [if_neg hp]
  simp only [Bool.false_eq_true, if_false]
  rw [hr]
  show (if n < m.code.getD (m.pc + 2) 0 then _ else _) = _
  rw [if_pos hn]
  rfl
theorem exec_rep_yes (m : M) {n : Nat} {sn : Sre.Seen} (hw : m.code.getD m.pc 0 = 24) (hp : ¬ ((m.code.getD (m.pc + 2) 0 : Nat) : Int) > (m.lim : Int) - m.pos)
    (hr : Sre.run m.code m.text (m.pc + 4) (min (m.code.getD (m.pc + 3) 0) ((m.lim : Int) - m.pos).toNat) m.pos 0 ((m.seen.add 24).add (m.code.getD (m.pc + 4) 0)) = .ok (n, sn)) (hn : ¬ n < m.code.getD (m.pc + 2) 0) : m.exec = ({ m with seen := sn, pos := m.pos + n } : M).afterRun .giveBack n (({ m with seen := sn, pos := m.pos + n } : M).keep m.inner.isSome) := by
  have e : ops[m.code.getD m.pc 0]? = some .REPEAT_ONE := by rw [hw]; rfl
  unfold M.exec M.word
  simp only [Nat.add_zero, e]
  simp only [hw]
  show (if ((m.code.getD (m.pc + 2) 0 : Nat) : Int) > (m.lim : Int) - m.pos then _ else _) = _
  rw [if_neg hp]
  simp only [Bool.false_eq_true, if_false]
  rw [hr]
  show (if n < m.code.getD (m.pc + 2) 0 then _ else _) = _
  rw [if_neg hn]

/-- the machine before a try at place s of a text of three letters -/
def hst (text : Array Nat) (s hd : Nat) (ob : Bool) (seen : Sre.Seen) : M :=
  { code := hcode, text, lim := 3, start := s, lastStart := 3, pc := 9, pos := s, handed := s, outermost := ob, marks := #[], frames := [{ wait := .nextStart, pc := 9, pos := s, outermost := ob }], weight := 1, seen }
theorem step_exec (m : M) (h1 : m.outcome = none) (h2 : m.answer = none) (h3 : m.pc < m.code.size) : m.step = m.exec := by
  unfold M.step
  rw [h1, h2]
  simp only [Option.isSome_none, Bool.false_eq_true, if_false]
  rw [if_pos h3]
/-- after a try at s that failed with just its own frame left: the next place -/
def hfail (text : Array Nat) (s pc pos : Nat) (ob : Bool) (seen : Sre.Seen) : M :=
  { code := hcode, text, lim := 3, start := s, lastStart := 3, pc, pos, handed := s, outermost := ob, marks := #[], frames := [{ wait := .nextStart, pc := 9, pos := s, outermost := ob }], weight := 1, seen, answer := some false }
theorem fail_next (text : Array Nat) (s pc pos : Nat) (ob : Bool) (seen : Sre.Seen) (h : s < 3) : (hfail text s pc pos ob seen).step = hst text (s + 1) (s + 1) false seen := by
  rcases s with _ | _ | _ | s
  · rfl
  · rfl
  · rfl
  · omega
theorem fail_last (text : Array Nat) (pc pos : Nat) (ob : Bool) (seen : Sre.Seen) : ((hfail text 3 pc pos ob seen).step.step).outcome = some .failed := by rfl
theorem at_no (text : Array Nat) (s hd : Nat) (ob : Bool) (seen : Sre.Seen) (h : s < 3) (ha : (text.getD s 0 == 61) = false) : (hst text s hd ob seen).step = hfail text s 9 s ob (seen.add 16) := by
  rw [step_exec _ rfl rfl (show 9 < hcode.size by decide)]
  exact exec_lit_no (hst text s hd ob seen) rfl h ha
theorem at_end (text : Array Nat) (hd : Nat) (ob : Bool) (seen : Sre.Seen) : (hst text 3 hd ob seen).step = hfail text 3 9 3 ob (seen.add 16) := by
  rw [step_exec _ rfl rfl (show 9 < hcode.size by decide)]
  exact exec_lit_end (hst text 3 hd ob seen) rfl (Nat.le_refl _)
/-- past the '=' -/
def hmid (text : Array Nat) (s : Nat) (ob : Bool) (seen : Sre.Seen) : M := { hst text s s ob seen with pc := 11, pos := s + 1 }
theorem at_yes (text : Array Nat) (s hd : Nat) (ob : Bool) (seen : Sre.Seen) (h : s < 3) (ha : (text.getD s 0 == 61) = true) : (hst text s hd ob seen).step = hmid text s ob (seen.add 16) := by
  rw [step_exec _ rfl rfl (show 9 < hcode.size by decide)]
  exact exec_lit_yes (hst text s hd ob seen) rfl h ha
theorem mid_room (text : Array Nat) (s : Nat) (ob : Bool) (seen : Sre.Seen) (h : 0 < s) : (hmid text s ob seen).step = hfail text s 11 (s + 1) ob (seen.add 24) := by
  rw [step_exec _ rfl rfl (show 11 < hcode.size by decide)]
  refine exec_rep_room (hmid text s ob seen) rfl ?_
  show ((2 : Nat) : Int) > ((3 : Nat) : Int) - ((s + 1 : Nat) : Int)
  omega
theorem mid_no (text : Array Nat) (ob : Bool) (seen sn : Sre.Seen) (n : Nat) (hn : n < 2) (hr : Sre.run hcode text 15 2 1 0 ((seen.add 24).add 13) = .ok (n, sn)) : (hmid text 0 ob seen).step = hfail text 0 11 1 ob sn := by
  rw [step_exec _ rfl rfl (show 11 < hcode.size by decide)]
  exact exec_rep_no (hmid text 0 ob seen) rfl (show ¬ ((2 : Nat) : Int) > ((3 : Nat) : Int) - ((1 : Nat) : Int) by decide) hr hn
theorem mid_yes (text : Array Nat) (seen sn : Sre.Seen) (hr : Sre.run hcode text 15 2 1 0 ((seen.add 24).add 13) = .ok (2, sn)) :
    ∃ m, M.runFor 5 (hmid text 0 true seen) = m ∧ m.outcome = some .matched ∧ m.start = 0 ∧ m.handed = 3 ∧ m.lastmark = -1 ∧ m.lastindex = -1 := by
  refine ⟨_, rfl, ?_⟩
  have e1 : (hmid text 0 true seen).step = ({ hmid text 0 true seen with seen := sn, pos := 3 } : M).afterRun .giveBack 2 (({ hmid text 0 true seen with seen := sn, pos := 3 } : M).keep false) := by
    rw [step_exec _ rfl rfl (show 11 < hcode.size by decide)]
    exact exec_rep_yes (hmid text 0 true seen) rfl (show ¬ ((2 : Nat) : Int) > ((3 : Nat) : Int) - ((1 : Nat) : Int) by decide) hr (show ¬ 2 < 2 by decide)
  have e0 : M.runFor 5 (hmid text 0 true seen) = M.runFor 4 (hmid text 0 true seen).step := rfl
  rw [e0, e1]
  refine ⟨?_, ?_, ?_, ?_, ?_⟩ <;> kernel_rfl
end Mine
end
section -- Eng2
open PySem PySem.W PyProof.Rows PySem.Calls
set_option maxRecDepth 100000
namespace Mine
open PySem.Sre
theorem hex_set : ∀ c, c < 256 → ((hcode.getD (17 + (1 + c / 32)) 0).testBit (c % 32)) = hexC c := by decide +kernel
theorem acc_hex (c : Nat) (sn : Sre.Seen) : ∃ sn', Sre.accepts hcode 15 c sn = .ok (hexC c, sn') := by
  have e0 : Sre.accepts hcode 15 c sn = Sre.inSet hcode c 29 17 true sn := rfl
  have e1 : Sre.inSet hcode c 29 17 true sn = if (decide (c < 256) && (hcode.getD (17 + (1 + c / 32)) 0).testBit (c % 32)) = true then .ok (true, sn.add 9) else Sre.inSet hcode c 28 26 true (sn.add 9) := rfl
  have e2 : ∀ z, Sre.inSet hcode c 28 26 true z = .ok (false, z.add 0) := fun _ => rfl
  rw [e0, e1, e2]
  by_cases h : c < 256
  · rw [hex_set c h]
    simp only [h, decide_true, Bool.true_and]
    cases hexC c
    · exact ⟨_, rfl⟩
    · exact ⟨_, rfl⟩
  · have : hexC c = false := by
      unfold hexC
      simp
      omega
    rw [this]
    simp only [h, decide_false, Bool.false_and]
    exact ⟨_, rfl⟩
theorem run_hex (text : Array Nat) (sn : Sre.Seen) : ∃ sn' n, Sre.run hcode text 15 2 1 0 sn = .ok (n, sn') ∧ (if (hexC (text.getD 1 0) && hexC (text.getD 2 0)) = true then n = 2 else n < 2) := by
  obtain ⟨s1, e1⟩ := acc_hex (text.getD 1 0) sn
  obtain ⟨s2, e2⟩ := acc_hex (text.getD 2 0) s1
  have r0 : Sre.run hcode text 15 2 1 0 sn = (Sre.accepts hcode 15 (text.getD 1 0) sn >>= fun (p : Bool × Sre.Seen) => if p.1 then Sre.run hcode text 15 1 2 1 p.2 else pure (0, p.2)) := rfl
  have r1 : ∀ z, Sre.run hcode text 15 1 2 1 z = (Sre.accepts hcode 15 (text.getD 2 0) z >>= fun (p : Bool × Sre.Seen) => if p.1 then .ok (2, p.2) else pure (1, p.2)) := fun _ => rfl
  rw [r0, e1]
  cases h1 : hexC (text.getD 1 0)
  · exact ⟨s1, 0, rfl, Nat.zero_lt_succ 1⟩
  · show ∃ sn' n, Sre.run hcode text 15 1 2 1 s1 = .ok (n, sn') ∧ _
    rw [r1, e2]
    cases h2 : hexC (text.getD 2 0)
    · exact ⟨s2, 1, rfl, Nat.lt_succ_self 1⟩
    · exact ⟨s2, 2, rfl, rfl⟩
/-- the machine ends within n steps, with an answer -/
def Ends (n : Nat) (m : M) (R : M → Prop) : Prop := ∃ k, k ≤ n ∧ (M.runFor k m).outcome.isSome = true ∧ R (M.runFor k m)
theorem runFor_out (m : M) (h : m.outcome.isSome = true) : ∀ n, M.runFor n m = m
  | 0 => rfl
  | n + 1 => by show (if m.outcome.isSome = true then m else _) = m; rw [if_pos h]
theorem runFor_add (a b : Nat) (m : M) : M.runFor (a + b) m = M.runFor b (M.runFor a m) := by
  induction a generalizing m with
  | zero => rw [Nat.zero_add]; rfl
  | succ a ih =>
    by_cases h : m.outcome.isSome = true
    · rw [runFor_out m h, runFor_out m h, runFor_out m h]
    · rw [Nat.succ_add]
      show (if m.outcome.isSome = true then m else M.runFor (a + b) m.step) = M.runFor b (if m.outcome.isSome = true then m else M.runFor a m.step)
      rw [if_neg h, if_neg h, ih]
theorem Ends.step {n : Nat} {m : M} {R : M → Prop} (h1 : m.outcome = none) (h : Ends n m.step R) : Ends (n + 1) m R := by
  obtain ⟨k, hk, e, r⟩ := h
  have : M.runFor (k + 1) m = M.runFor k m.step := by
    show (if m.outcome.isSome = true then m else _) = _
    rw [h1]; rfl
  exact ⟨k + 1, Nat.succ_le_succ hk, by rw [this]; exact e, by rw [this]; exact r⟩
theorem Ends.of_run {n : Nat} {m : M} {R : M → Prop} (k : Nat) (hk : k ≤ n) (e : (M.runFor k m).outcome.isSome = true) (r : R (M.runFor k m)) : Ends n m R := ⟨k, hk, e, r⟩
section
variable {M : Model} {A : Around} {E : Value → Shared → Prop} {s : Shared}
theorem wpAny_drive {R : Sre.M → Prop} {Q : Sre.M → Shared → Prop} (hq : ∀ m', m'.outcome.isSome = true → R m' → Q m' s) : ∀ (t n : Nat) (m : Sre.M), Ends n m R → n < 4 * t → wpAny M A (Builtin.Re.reDrive t m) Q E s
  | 0, n, m, _, hn => absurd hn (by omega)
  | t + 1, n, m, ⟨k, hk, e, r⟩, hn => by
    show wpAny M A (if (Sre.M.runFor 4 m).outcome.isSome = true then pure (Sre.M.runFor 4 m) else do rule "sre.turn"; Builtin.Re.reDrive t (Sre.M.runFor 4 m)) Q E s
    by_cases hk4 : k ≤ 4
    · have : Sre.M.runFor 4 m = Sre.M.runFor k m := by
        obtain ⟨j, hj⟩ : ∃ j, 4 = k + j := ⟨4 - k, by omega⟩
        rw [hj, runFor_add, runFor_out _ e]
      rw [this, if_pos e]
      exact wpAny_pure (hq _ e r)
    · obtain ⟨j, rfl⟩ : ∃ j, k = 4 + j := ⟨k - 4, by omega⟩
      rw [runFor_add] at e r
      by_cases h4 : (Sre.M.runFor 4 m).outcome.isSome = true
      · rw [if_pos h4]
        rw [runFor_out _ h4] at r
        exact wpAny_pure (hq _ h4 r)
      · rw [if_neg h4]
        exact wpAny_bind (wpAny_rule (wpAny_drive hq t (n - 4) _ ⟨j, by omega, e, r⟩ (by omega)))
theorem wpAny_runToEnd {m : Sre.M} {b : Bool} {Q : Option Sre.M → Shared → Prop} (h : Ends 64 m (fun m' => m'.outcome = some (if b then .matched else .failed) ∧ (b = true → m'.start = 0 ∧ m'.handed = 3 ∧ m'.lastmark = -1 ∧ m'.lastindex = -1)))
    (hy : b = true → ∀ m' : Sre.M, m'.start = 0 → m'.handed = 3 → m'.lastmark = -1 → m'.lastindex = -1 → Q (some m') s) (hn : b = false → Q none s) : wpAny M A (Builtin.Re.reRunToEnd m) Q E s := by
  unfold Builtin.Re.reRunToEnd
  refine wpAny_bind (wpAny_drive (R := fun m' => m'.outcome = some (if b then .matched else .failed) ∧ (b = true → m'.start = 0 ∧ m'.handed = 3 ∧ m'.lastmark = -1 ∧ m'.lastindex = -1)) (fun m' _ hr => ?_) (2 ^ 64) 64 m h (by decide))
  obtain ⟨ho, hb⟩ := hr
  refine wpAny_bind (wpAny_forIn_list _ (fun _ _ s' => s' = s) _ ?_ ?_ _ _ rfl)
  · rintro x rest u s' rfl
    split
    · exact wpAny_bind (wpAny_rule (wpAny_pure rfl))
    · exact wpAny_pure rfl
  · rintro u s' rfl
    rw [ho]
    cases b with
    | false => exact wpAny_pure (hn rfl)
    | true =>
      obtain ⟨h1, h2, h3, h4⟩ := hb rfl
      exact wpAny_pure (hy rfl m' h1 h2 h3 h4)
end
def hyes (text : Array Nat) : Bool := (text.getD 0 0 == 61) && (hexC (text.getD 1 0) && hexC (text.getD 2 0))
abbrev Fin5 (b : Bool) (m' : M) : Prop := m'.outcome = some (if b then .matched else .failed) ∧ (b = true → m'.start = 0 ∧ m'.handed = 3 ∧ m'.lastmark = -1 ∧ m'.lastindex = -1)
theorem fail_ends (text : Array Nat) : ∀ (d s pc pos : Nat) (ob : Bool) (sn : Sre.Seen), s + d = 3 → (d = 0 ∨ 0 < s ∨ 0 < d) → Ends (4 * d + 2) (hfail text s pc pos ob sn) (Fin5 false)
  | 0, s, pc, pos, ob, sn, h, _ => by
    obtain rfl : s = 3 := by omega
    exact ⟨2, by omega, rfl, rfl, fun h => nomatch h⟩
  | d + 1, s, pc, pos, ob, sn, h, _ => by
    refine Ends.step (n := 4 * d + 5) rfl ?_
    rw [fail_next text s pc pos ob sn (by omega)]
    refine Ends.step (n := 4 * d + 4) rfl ?_
    by_cases h3 : s + 1 < 3
    · cases ha : (text.getD (s + 1) 0 == 61) with
      | false =>
        rw [at_no text (s + 1) _ false sn h3 ha]
        obtain ⟨k, hk, e, r⟩ := fail_ends text d (s + 1) 9 (s + 1) false (sn.add 16) (by omega) (by omega)
        exact ⟨k, by omega, e, r⟩
      | true =>
        rw [at_yes text (s + 1) _ false sn h3 ha]
        refine Ends.step (n := 4 * d + 3) rfl ?_
        rw [mid_room text (s + 1) false _ (by omega)]
        obtain ⟨k, hk, e, r⟩ := fail_ends text d (s + 1) 11 (s + 1 + 1) false ((sn.add 16).add 24) (by omega) (by omega)
        exact ⟨k, by omega, e, r⟩
    · obtain rfl : s = 2 := by omega
      obtain rfl : d = 0 := by omega
      rw [at_end text _ false sn]
      obtain ⟨k, hk, e, r⟩ := fail_ends text 0 3 9 3 false (sn.add 16) (by omega) (by omega)
      exact ⟨k, by omega, e, r⟩
theorem search_three (text : Array Nat) : Ends 64 (Sre.forSearch hcode text 0 0 3 false) (Fin5 (hyes text)) := by
  have e0 : Sre.forSearch hcode text 0 0 3 false = hst text 0 0 true (({} : Sre.Seen).add 14) := rfl
  rw [e0]
  refine Ends.step (n := 63) rfl ?_
  cases ha : (text.getD 0 0 == 61) with
  | false =>
    have hy : hyes text = false := by unfold hyes; rw [ha]; rfl
    rw [at_no text 0 0 true _ (by decide) ha, hy]
    obtain ⟨k, hk, e, r⟩ := fail_ends text 3 0 9 0 true ((({} : Sre.Seen).add 14).add 16) (by omega) (by omega)
    exact ⟨k, by omega, e, r⟩
  | true =>
    rw [at_yes text 0 0 true _ (by decide) ha]
    obtain ⟨sn', n, hr, hn⟩ := run_hex text (((({} : Sre.Seen).add 14).add 16).add 24 |>.add 13)
    cases hx : (hexC (text.getD 1 0) && hexC (text.getD 2 0)) with
    | false =>
      have hy : hyes text = false := by unfold hyes; rw [ha, hx]; rfl
      rw [hx] at hn
      rw [hy]
      refine Ends.step (n := 62) rfl ?_
      rw [mid_no text true _ sn' n hn hr]
      obtain ⟨k, hk, e, r⟩ := fail_ends text 3 0 11 1 true sn' (by omega) (by omega)
      exact ⟨k, by omega, e, r⟩
    | true =>
      have hy : hyes text = true := by unfold hyes; rw [ha, hx]; rfl
      rw [hx] at hn
      obtain rfl : n = 2 := hn
      rw [hy]
      obtain ⟨m, e, h1, h2, h3, h4, h5⟩ := mid_yes text _ sn' hr
      exact ⟨5, by omega, by rw [e, h1]; rfl, by rw [e]; exact ⟨h1, fun _ => ⟨h2, h3, h4, h5⟩⟩⟩
theorem search_short (text : Array Nat) (pos lim : Nat) (b : Bool) (h : lim - pos < 3) : Ends 64 (Sre.forSearch hcode text 0 pos lim b) (Fin5 false) := by
  have hc : pos > lim ∨ lim - pos < (Sre.header hcode).1 := .inr h
  unfold Sre.forSearch
  dsimp only
  rw [if_pos (by first | exact hc | (simp; exact hc))]
  exact ⟨1, by decide, rfl, rfl, fun h => nomatch h⟩
end Mine
end
section -- X2
open PySem PySem.W PyProof.Rows PySem.Calls
set_option maxRecDepth 100000
namespace Mine
def o36 : Obj := { cls := .type "re.Pattern", data := .fields #[.str (Str.ofString "=[a-fA-F0-9]{2}") 283, .int 256 315, .int 0 0, .none, .none, .ref 35, .int 0 0] }
def o35 : Obj := { cls := .type "tuple", data := .seq #[.int 14 0, .int 8 0, .int 1 0, .int 3 0, .int 3 0, .int 1 0, .int 1 0, .int 61 0, .int 0 0, .int 16 0, .int 61 0, .int 24 0, .int 16 0, .int 2 0, .int 2 0, .int 13 0, .int 11 0, .int 9 0, .int 0 0, .int 67043328 0, .int 126 0, .int 126 0, .int 0 0, .int 0 0, .int 0 0, .int 0 0, .int 0 0, .int 1 0, .int 1 0] }
structure Re (h : Heap) : Prop where
  p : h.get? 36 = some o36
  c : h.get? 35 = some o35
  f : ∃ o, h.get? 94 = some o ∧ o.cls = .type "function"
theorem re_of (w : World) (h : Heap) : PySem.Challenge.rw_dm5005_01 = PySem.Challenge.rw_dm5005_01 → (Mine.hd.heap_39 w.params).In h → Re h := by
  k_fill
  intro _ X
  have h36 := X 36 _ (by k_is)
  have h35 := X 35 _ (by k_is)
  have h94 := X 94 _ (by k_is)
  exact ⟨h36, h35, _, h94, rfl⟩
theorem Re.keep {h h' : Heap} (R : Re h) (k : ∀ b o, h.get? b = some o → h'.get? b = some o) : Re h' :=
  ⟨k _ _ R.p, k _ _ R.c, R.f.elim fun o ho => ⟨o, k _ _ ho.1, ho.2⟩⟩
theorem fun_call : typeLookup (.type "function") "__call__" = pure (some (.builtin "function.__call__")) := by rw [typeLookup_type, builtinLookup_eq_fast]; kernel_rfl
theorem lookup_pat : typeLookup (.type "re.Pattern") "sub" = pure (some (.builtin "re.Pattern.sub")) := by rw [typeLookup_type, builtinLookup_eq_fast]; kernel_rfl
open Builtin.Re in
theorem code_of : ((#[.int 14 0, .int 8 0, .int 1 0, .int 3 0, .int 3 0, .int 1 0, .int 1 0, .int 61 0, .int 0 0, .int 16 0, .int 61 0, .int 24 0, .int 16 0, .int 2 0, .int 2 0, .int 13 0, .int 11 0, .int 9 0, .int 0 0, .int 67043328 0, .int 126 0, .int 126 0, .int 0 0, .int 0 0, .int 0 0, .int 0 0, .int 0 0, .int 1 0, .int 1 0] : Array Value).map reRawOf).map (·.toNat) = hcode := by decide +kernel
abbrev tgt (y : Str) (t : Tok) : Builtin.Re.ReTarget := { pattern := .ref 36, string := .str y t, code := hcode, text := y.cps, kind := 0, groups := 0, pos := 0, lim := y.cps.size }
section
variable {M : Model} {A : Around} {E : Value → Shared → Prop} {s : Shared} {y : Str} {t : Tok}
theorem whole_target {Q : Builtin.Re.ReTarget → Shared → Prop} (R : Re s.heap) (h : Q (tgt y t) s) : wpAny M A (Builtin.Re.reWholeTarget (.ref 36) (.str y t)) Q E s := by
  unfold Builtin.Re.reWholeTarget fieldsOf
  refine wpAny_bind (wpAny_bind (wpAny_load R.p (wpAny_pure ?_)))
  unfold Builtin.Re.reTextOf
  refine wpAny_bind (wpAny_bind (wpAny_pure (wpAny_pure ?_)))
  unfold Builtin.Re.reNoCollectionInside Builtin.Re.reRawItems
  dsimp only
  refine wpAny_bind (wpAny_pure ?_)
  refine wpAny_bind (wpAny_bind (wpAny_seqItems R.c rfl (wpAny_pure ?_)))
  refine wpAny_pure ?_
  rw [Option.getD_some, code_of]
  exact h
end
end Mine
end
section -- X3
open PySem PySem.W PyProof.Rows PySem.Calls
set_option maxRecDepth 100000
namespace Mine
section
variable {M : Model} {A : Around} {E : Value → Shared → Prop} {s : Shared} {y : Str} {t : Tok}
theorem next_no {Q : Option Sre.M → Shared → Prop} (start : Nat) (b : Bool) (hz : (y.length - start < 3) ∨ (y.length = 3 ∧ start = 0 ∧ b = false ∧ hyes y.cps = false)) (h : Q none s) : wpAny M A (Builtin.Re.reNextFound (tgt y t) start b) Q E s := by
  unfold Builtin.Re.reNextFound
  rcases hz with hz | ⟨h3, rfl, rfl, hy⟩
  · exact wpAny_runToEnd (b := false) (search_short y.cps start y.cps.size b hz) (fun h => nomatch h) (fun _ => h)
  · have e := search_three y.cps
    rw [hy] at e
    have h3' : y.cps.size = 3 := h3
    show wpAny M A (Builtin.Re.reRunToEnd (Sre.forSearch hcode y.cps 0 0 y.cps.size false)) Q E s
    rw [h3']
    exact wpAny_runToEnd (b := false) e (fun h => nomatch h) (fun _ => h)
theorem next_yes {Q : Option Sre.M → Shared → Prop} (h3 : y.length = 3) (hy : hyes y.cps = true) (h : ∀ m : Sre.M, m.start = 0 → m.handed = 3 → m.lastmark = -1 → m.lastindex = -1 → Q (some m) s) : wpAny M A (Builtin.Re.reNextFound (tgt y t) 0 false) Q E s := by
  unfold Builtin.Re.reNextFound
  have e := search_three y.cps
  rw [hy] at e
  have h3' : y.cps.size = 3 := h3
  show wpAny M A (Builtin.Re.reRunToEnd (Sre.forSearch hcode y.cps 0 0 y.cps.size false)) Q E s
  rw [h3']
  exact wpAny_runToEnd (b := true) e (fun _ => h) (fun h => nomatch h)
theorem slice_re {Q : Value → Shared → Prop} (b e : Nat) (hz : y.length ≤ 3) (h : ∀ t' k, Q (.str ⟨y.cps.extract b e⟩ t') { s with toks := k }) : wpAny M A (Builtin.Re.reSlice y.cps 0 b e) Q E s := by
  unfold Builtin.Re.reSlice
  refine wpAny_mkStr (h _ _) ?_
  have : (y.cps.extract b e).size ≤ y.cps.size := by simp only [Array.size_extract]; omega
  have h3 : y.cps.size ≤ 3 := hz
  rw [sizeLine_eq]
  show (y.cps.extract b e).size ≤ _
  omega
end
def listO (xs : Array Value) (n : Nat) : Obj := { cls := .type "list", data := .seq xs n }
section
variable {prog : Program} {w : World} {A : Around} {E : Value → Shared → Prop} {s : Shared} {y z : Str} {t tz : Tok} {l : Addr} {Q : Value → Shared → Prop}

/-- the list of the pieces, kept apart from the ledger -/
structure Pc (h₀ : Heap) (L : Addr) (h : Heap) (m : Str → Option Value) (news : List (Addr × Obj)) (l : Addr) (xs : Array Value) : Prop where
  F : Fr h₀ L h m
  N : News h₀ L h news
  at_ : ∃ n, h.get? l = some (listO xs n)
  ne : l ≠ L
  new : h₀.get? l = none
  off : ∀ p ∈ news, p.1 ≠ l
variable {h₀ h : Heap} {L : Addr} {m : Str → Option Value} {news : List (Addr × Obj)} {xs : Array Value}
theorem Pc.upd (P : Pc h₀ L h m news l xs) (v : Value) : Pc h₀ L (h.update l (Obj.mapSeq fun x => x.push v)) m news l (xs.push v) := by
  obtain ⟨n, ho⟩ := P.at_
  have N1 : News h₀ L h [(l, listO xs n)] := fun p hp => by
    rw [List.mem_singleton.mp hp]; exact ⟨ho, P.ne, P.new⟩
  have hs := Heap.SameBut.update h l (Obj.mapSeq fun x => x.push v)
  exact ⟨P.F.update N1 (List.Mem.head _) hs, fun p hp => ⟨(hs.2 _ (P.off p hp)).trans (P.N p hp).1, (P.N p hp).2⟩, ⟨_, Heap.get?_update_self (Obj.mapSeq fun x => x.push v) ho rfl⟩, P.ne, P.new, P.off⟩
theorem Pc.push (P : Pc h₀ L h m news l xs) (o : Obj) (hfree : o.isFreed = false) : Pc h₀ L (h.push o) m ((h.objs.size, o) :: news) l xs :=
  ⟨P.F.push _, P.N.push P.F o hfree, P.at_.elim fun n e => ⟨n, Heap.get?_push_of_some _ e⟩, P.ne, P.new, fun p hp => by
    rcases List.mem_cons.mp hp with rfl | hp
    · exact P.at_.elim fun n e => Nat.ne_of_gt (Heap.lt_size e)
    · exact P.off p hp⟩
theorem Pc.less (P : Pc h₀ L h m news l xs) {news' : List (Addr × Obj)} (hs : ∀ p ∈ news', p ∈ news) : Pc h₀ L h m news' l xs :=
  ⟨P.F, fun p hp => P.N p (hs p hp), P.at_, P.ne, P.new, fun p hp => P.off p (hs p hp)⟩
theorem Pc.re (P : Pc h₀ L h m news l xs) (R : Re h₀) : Re h := R.keep P.F.keep
theorem ret_str {A : Around} {s : Shared} {z : Str} {t : Tok} {R : Result → Shared → Prop} (h : R (.ok (.ret (.str z t))) s) :
    wpAny (model prog w) A (ret (.str z t)) (fun fin s' => match fin with | .done f => R (.ok f) s' | .again c' => c'.quiet = true ∧ codeAny (model prog w) A c' R s') (fun e s' => R (.error e) s') s := wpAny_pure h
/-- nothing more is found: the pieces are put together -/
theorem loop_none {g : Array GenState} {d : Drawn} {k : Nat} {os : OsState} (R : Re h₀) (P : Pc h₀ L h m news l #[]) (n : Nat) (hz : y.length ≤ 3) (hn : (y.length - 0 < 3) ∨ (y.length = 3 ∧ 0 = 0 ∧ false = false ∧ hyes y.cps = false))
    (hq : ∀ h' t' k', Fr h₀ L h' m → News h₀ L h' news → Q (.str y t') ⟨h', g, d, k', os⟩) :
    codeAny (model prog w) A (.builtin "re.Pattern.sub.loop" ⟨[.ref 36, .str y t, .ref 94, .int (1 : Nat) 0, .int 0 0, .int 0 0, .int 0 0, .int 0 0, .bool false, .ref l, .bool false], []⟩) (wants Q E) ⟨h, g, d, k, os⟩ := by
  refine codeAny_builtin entry_subLoop ?_
  rw [Around.under_plainId plain_subLoop _]
  unfold Builtin.«re.Pattern.sub.loop»
  refine wpAny_bind (whole_target (P.re R) ?_)
  rw [if_neg (by decide)]
  rw [if_neg (by decide)]
  refine wpAny_bind (next_no 0 false hn ?_)
  dsimp only
  rw [show Int.toNat 0 = 0 from rfl]
  have hs3 : y.cps.size ≤ 3 := hz
  by_cases h0 : 0 < y.cps.size
  · rw [if_pos h0]
    refine wpAny_bind (slice_re _ _ hz fun t1 k1 => ?_)
    obtain ⟨n0, ho⟩ := P.at_
    refine wpAny_bind (wpAny_updateSeq ho rfl ?_ (by simp [sizeLine_eq]) (by simp [sizeLine_eq]))
    have P1 := P.upd (.str ⟨y.cps.extract 0 y.cps.size⟩ t1)
    refine wpAny_bind (slice_re _ _ hz fun t2 k2 => ?_)
    obtain ⟨n1, ho1⟩ := P1.at_
    refine wpAny_bind (wpAny_seqItems ho1 rfl ?_)
    rw [if_neg (by simp)]
    refine wpAny_bind ?_
    have e1 : (⟨y.cps.extract 0 y.cps.size⟩ : Str) = y := by simp
    refine join_listW (ys := [y]) ⟨_, ho1, rfl, _, rfl⟩ (by rw [e1]; exact .cons _ _ .nil) (by simp [Str.length]) (by simp; have : y.length ≤ 3 := hz; omega) fun t3 k3 => ?_
    rw [if_neg (by decide)]
    exact wpAny_pure (hq _ t3 k3 P1.F P1.N)
  · rw [if_neg h0]
    refine wpAny_bind (slice_re _ _ hz fun t2 k2 => ?_)
    obtain ⟨n1, ho1⟩ := P.at_
    refine wpAny_bind (wpAny_seqItems ho1 rfl ?_)
    rw [if_pos (by rfl)]
    refine wpAny_bind (wpAny_pure ?_)
    rw [if_neg (by decide)]
    have e1 : (⟨y.cps.extract 0 0⟩ : Str) = y := by
      have : y.cps = #[] := by apply Array.eq_empty_of_size_eq_zero; omega
      cases y; subst this; rfl
    rw [e1]
    exact wpAny_pure (hq _ t2 k2 P.F P.N)
/-- after the one place that was found -/
theorem loop_one {g : Array GenState} {d : Drawn} {k : Nat} {os : OsState} {v1 : Int} (R : Re h₀) (P : Pc h₀ L h m news l #[.str z tz]) (b : Bool) (hy3 : y.length = 3) (hz : z.length ≤ 3)
    (hq : ∀ h' t' k', Fr h₀ L h' m → News h₀ L h' news → Q (.str z t') ⟨h', g, d, k', os⟩) :
    codeAny (model prog w) A (.builtin "re.Pattern.sub.loop" ⟨[.ref 36, .str y t, .ref 94, .int (1 : Nat) 0, .int 0 0, .int v1 0, .int ((3 : Nat) : Int) 0, .int ((3 : Nat) : Int) 0, .bool b, .ref l, .bool false], []⟩) (wants Q E) ⟨h, g, d, k, os⟩ := by
  refine codeAny_builtin entry_subLoop ?_
  rw [Around.under_plainId plain_subLoop _]
  unfold Builtin.«re.Pattern.sub.loop»
  refine wpAny_bind (whole_target (P.re R) ?_)
  rw [if_neg (by decide)]
  have hs3 : y.cps.size = 3 := hy3
  rw [show ((0 : Int) != 0 && decide (v1 ≥ 0)) = false from rfl, if_neg (by decide)]
  refine wpAny_bind (next_no 3 b (.inl (by omega)) ?_)
  dsimp only
  rw [show Int.toNat ((3 : Nat) : Int) = 3 from rfl]
  rw [if_neg (by omega)]
  refine wpAny_bind (slice_re _ _ (by omega) fun t2 k2 => ?_)
  obtain ⟨n1, ho1⟩ := P.at_
  refine wpAny_bind (wpAny_seqItems ho1 rfl ?_)
  rw [if_neg (by simp)]
  refine wpAny_bind ?_
  refine join_listW (ys := [z]) ⟨_, ho1, rfl, _, rfl⟩ (.cons _ _ .nil) (by simp [Str.length]) (by simp; omega) fun t3 k3 => ?_
  rw [if_neg (by decide)]
  exact wpAny_pure (hq _ t3 k3 P.F P.N)
/-- the match object -/
def matO (y : Str) (t : Tok) (T : Addr) : Obj := { cls := .type "re.Match", data := .fields #[.str y t, .ref 36, .int 0 0, .int ((3 : Nat) : Int) 0, .int (-1) 0, .ref T] }
def spanO : Obj := { cls := .type "tuple", data := .seq #[.int ((0 : Nat) : Int) 0, .int ((3 : Nat) : Int) 0] }
theorem new_match {A : Around} {E : Value → Shared → Prop} {g : Array GenState} {d : Drawn} {k : Nat} {os : OsState} {Q : Value → Shared → Prop} {mm : Sre.M} (h1 : mm.start = 0) (h2 : mm.handed = 3) (h3 : mm.lastmark = -1) (h4 : mm.lastindex = -1)
    (hq : Q (.ref (h.push spanO).objs.size) ⟨(h.push spanO).push (matO y t h.objs.size), g, d, k, os⟩) :
    wpAny (model prog w) A (Builtin.Re.reNewMatch (.ref 36) (.str y t) 0 0 3 mm) Q E ⟨h, g, d, k, os⟩ := by
  unfold Builtin.Re.reNewMatch newFields
  rw [h1, h2, h3, h4]
  rw [if_neg (fun h : ((List.range 0).any _ = true) => nomatch h)]
  refine wpAny_bind (wpAny_newTuple ?_ (by show 2 ≤ sizeLine; rw [sizeLine_eq]; decide))
  exact wpAny_newObj_type hq
/-- a place is found: the call, and the last turn -/
theorem loop_yes {g : Array GenState} {d : Drawn} {k : Nat} {os : OsState} (R : Re h₀) (P : Pc h₀ L h m news l #[]) (hy3 : y.length = 3) (hy : hyes y.cps = true) (hz : z.length ≤ 3)
    (hcall : ∀ (a T : Addr) (h₁ : Heap) (Q' : Value → Shared → Prop), Pc h₀ L h₁ m ((a, matO y t T) :: (T, spanO) :: news) l #[] → (∀ h' t' k', Pc h₀ L h' m ((a, matO y t T) :: (T, spanO) :: news) l #[] → Q' (.str z t') ⟨h', g, d, k', os⟩) →
      wpAny (model prog w) A.in1 (call (.ref 94) [.ref a]) Q' E ⟨h₁, g, d, k, os⟩)
    (hq : ∀ h' t' k', Fr h₀ L h' m → News h₀ L h' news → Q (.str z t') ⟨h', g, d, k', os⟩) :
    codeAny (model prog w) A (.builtin "re.Pattern.sub.loop" ⟨[.ref 36, .str y t, .ref 94, .int (1 : Nat) 0, .int 0 0, .int 0 0, .int 0 0, .int 0 0, .bool false, .ref l, .bool false], []⟩) (wants Q E) ⟨h, g, d, k, os⟩ := by
  refine codeAny_builtin entry_subLoop ?_
  rw [Around.under_plainId plain_subLoop _]
  unfold Builtin.«re.Pattern.sub.loop»
  refine wpAny_bind (whole_target (P.re R) ?_)
  rw [if_neg (by decide)]
  rw [if_neg (by decide)]
  refine wpAny_bind (next_yes hy3 hy fun mm h1 h2 h3 h4 => ?_)
  dsimp only
  have hs3 : y.cps.size = 3 := hy3
  rw [h1, hs3]
  rw [if_neg (by decide)]
  rw [if_neg (by decide)]
  refine wpAny_bind (new_match h1 h2 h3 h4 ?_)
  have P1 := (P.push spanO rfl).push (matO y t h.objs.size) rfl
  refine wpAny_bind (wpAny_holding ?_)
  rw [if_pos (by decide)]
  refine hcall _ _ _ _ P1 fun h' t' k' P2 => ?_
  rw [if_pos (by rfl)]
  obtain ⟨n2, ho2⟩ := P2.at_
  refine wpAny_bind (wpAny_updateSeq ho2 rfl ?_ (by simp [sizeLine_eq]) (by simp [sizeLine_eq]))
  have P3 := (P2.upd (.str z t')).less (news' := news) (fun p hp => List.mem_cons_of_mem _ (List.mem_cons_of_mem _ hp))
  rw [h2]
  exact wpAny_pure ⟨plainId_quiet plain_subLoop _, loop_one R P3 _ hy3 hz hq⟩
end
end Mine
end
section -- X4
open PySem PySem.W PyProof.Rows PySem.Calls
set_option maxRecDepth 100000
namespace Mine
theorem sub_str_bytearray : isSubtype (.type "str") (.type "bytearray") = pure false := by rw [isSubtype_type]; kernel_rfl
section
variable {prog : Program} {w : World} {A : Around} {E : Value → Shared → Prop} {y z : Str} {t tz : Tok} {Q : Value → Shared → Prop} {h₀ h : Heap} {L : Addr} {m : Str → Option Value} {news : List (Addr × Obj)} {g : Array GenState} {d : Drawn} {k : Nat} {os : OsState}
set_option maxHeartbeats 1000000 in
theorem call_sub (R : Re h₀) (F : Fr h₀ L h m) (N : News h₀ L h news)
    (hl : ∀ (l : Addr) (h' : Heap), Pc h₀ L h' m news l #[] → codeAny (model prog w) A (.builtin "re.Pattern.sub.loop" ⟨[.ref 36, .str y t, .ref 94, .int (1 : Nat) 0, .int 0 0, .int 0 0, .int 0 0, .int 0 0, .bool false, .ref l, .bool false], []⟩) (wants Q E) ⟨h', g, d, k, os⟩) :
    wpAny (model prog w) A (call (.builtin "re.Pattern.sub") [.ref 36, .ref 94, .str y t]) Q E ⟨h, g, d, k, os⟩ := by
  have R' := R.keep F.keep
  have hT : (⟨h, g, d, k, os⟩ : Shared).TypeIs (.ref 36) "re.Pattern" := ⟨_, R'.p, rfl⟩
  have hT94 : (⟨h, g, d, k, os⟩ : Shared).TypeIs (.ref 94) "function" := R'.f
  have P : Pc h₀ L (h.push { cls := .type "list", data := .seq #[] }) m news h.objs.size #[] :=
    have N' := N.push F { cls := .type "list", data := .seq #[] } rfl
    ⟨F.push _, fun p hp => N' p (List.mem_cons_of_mem _ hp), ⟨0, (N' _ (List.mem_cons_self ..)).1⟩, (N' _ (List.mem_cons_self ..)).2.1, (N' _ (List.mem_cons_self ..)).2.2, fun p hp => Nat.ne_of_lt (Heap.lt_size (N p hp).1)⟩
  refine wpAny_call (codeAny_call_builtin slot_sub.plain entry_sub (slot_sub.check _ _ _ _ _ _ _ _ hT (args_sub _ _ _) ?_))
  unfold Builtin.«re.Pattern.sub» Builtin.Re.reSubstitute
  repeat (any_goals (first | assumption | (with_reducible refine wpAny_specialOf hT94 fun_call ?_) | (with_reducible refine whole_target R' ?_) | wp_step))
  refine wpAny_of_eq sub_str_bytearray ?_
  refine wpAny_pure ?_
  refine wpAny_bind (wpAny_newList ?_ (by show 0 ≤ sizeLine; exact Nat.zero_le _))
  exact wpAny_pure ⟨plainId_quiet plain_subLoop _, hl _ _ P⟩
end
end Mine
end
section -- X5
open PySem PySem.W PyProof.Rows PySem.Calls
set_option maxRecDepth 100000
namespace Mine
section
variable {prog : Program} {w : World} {A : Around} {E : Value → Shared → Prop} {y z : Str} {t tz : Tok} {Q : Value → Shared → Prop} {h : Heap} {a T : Addr} {g : Array GenState} {d : Drawn} {k : Nat} {os : OsState} {u : Tok}
set_option maxHeartbeats 1000000 in
theorem call_group (ha : h.get? a = some (matO y t T)) (hs : h.get? T = some spanO) (hy3 : y.length = 3)
    (hq : ∀ t' k', Q (.str y t') ⟨h, g, d, k', os⟩) :
    wpAny (model prog w) A (call (.builtin "re.Match.group") [.ref a, .int 0 u]) Q E ⟨h, g, d, k, os⟩ := by
  have hT : (⟨h, g, d, k, os⟩ : Shared).TypeIs (.ref a) "re.Match" := ⟨_, ha, rfl⟩
  have e1 : (⟨y.cps.extract 0 3⟩ : Str) = y := by
    have : y.cps.size = 3 := hy3
    rw [← this]; simp
  refine wpAny_call (codeAny_call_builtin slot_group.plain entry_group (slot_group.check _ _ _ _ _ _ _ _ hT (args_group _ _) ?_))
  unfold Builtin.«re.Match.group»
  refine wpAny_bind (wpAny_pure ?_)
  unfold Builtin.Re.reFound fieldsOf
  refine wpAny_bind (wpAny_bind (wpAny_bind (wpAny_load ha (wpAny_pure ?_))))
  unfold Builtin.Re.reRawItems
  refine wpAny_bind (wpAny_bind (wpAny_seqItems hs rfl (wpAny_pure ?_)))
  refine wpAny_pure ?_
  unfold Builtin.Re.reGroupNumber
  repeat (any_goals (first | assumption | wp_step))
  have es : Array.map Builtin.Re.reRawOf ((some #[Value.int ((0 : Nat) : Int) 0, Value.int ((3 : Nat) : Int) 0]).getD #[]) = #[0, 3] := by decide +kernel
  rw [es]
  dsimp only
  rw [if_neg (by exact Bool.false_ne_true)]
  unfold Builtin.Re.reTextOf
  refine wpAny_bind (wpAny_bind (wpAny_pure (wpAny_pure ?_)))
  refine slice_re (y := y) _ _ (by omega) fun t1 k1 => ?_
  refine wpAny_pure ?_
  have e2 : (⟨y.cps.extract ((#[(0 : Int), 3] : Array Int).getD (2 * Int.toNat 0) (-1)).toNat ((#[(0 : Int), 3] : Array Int).getD (2 * Int.toNat 0 + 1) (-1)).toNat⟩ : Str) = y := e1
  rw [e2]
  exact hq _ _
end
end Mine
end
section -- C6
open PySem PySem.W PyProof.Rows PySem.Calls
namespace Mine
/-- a call's answer where the ledger holds what is needed -/
def ConN (w : World) (f : Addr) (d u : Nat) (vs : List Value) (need : List (Addr × Obj)) (R : Tok → Value) : Prop :=
  ∀ (loose : List Str) (mean : ExcName → Option Value) (mg mb : Str → Option Value) (dp un : Nat) (gd : Option (List Code)) (cn : Str) (cs : Scope) (a : Addr) (ccd : Value) (cl : List (Str × Addr)) (outer : List Env) (A₀ : Around) (base h₀ : Heap) (L : Addr) (m : Str → Option Value) (news : List (Addr × Obj)) (s : Shared) (Q E : Value → Shared → Prop),
    Below A₀ base outer h₀ → Fr h₀ L s.heap m → (Mine.hd.heap_39 w.params).In h₀ → News h₀ L s.heap news → Top Mine.hd.view_39 loose mean mg mb h₀ → cs.kind = .function → dp + d < recursionLimit → un + u < cLine → (∀ p ∈ need, p ∈ news) →
    (∀ (t : Tok) (h' : Heap) (tk' : Nat), Fr h₀ L h' m → News h₀ L h' news → Q (R t) { s with heap := h', toks := tk' }) →
    wpAny (model PySem.Challenge.rw_dm5005_01.row.prog w) (ktrTop dp un gd cn cs L a ccd cl outer) (call (.ref f) vs) Q E s
local macro_rules | `(tactic| walk_at "call ref") => `(tactic| (k_here; k_dflt (refine' con_use (con_unquote _ _ _ _ _ _ ?kx ?kb ?kc) ?k1 ?k2 ?k3 ?k4 ?k5 ?kK ?kd ?ku trivial ?_; (case kx => assumption); (case kb => assumption); (case kc => assumption); (case k1 => k_asm); (case k2 => k_asm); (case k3 => k_asm); (case k4 => k_asm); (case k5 => k_asm); (case kK => first | exact rfl | assumption); (case kd => ktr_room); (case ku => ktr_units)); intro t9 h9 tk9 F9 N9; (try dsimp only); (try k_fold)))
local macro_rules | `(tactic| walk_at "getMethod ref") => `(tactic| (k_here; refine hold ?_))
set_option maxRecDepth 100000 in
set_option maxHeartbeats 4000000 in
theorem con_um (w : World) (x : Str) (t : Tok) (a T : Addr) (e b c : Nat) (hx : x = ⟨#[e, b, c]⟩) (hb : b ∈ figs) (hc : c ∈ figs) : ConN w 94 3 24 [.ref a] [(a, matO x t T), (T, spanO)] (fun t => .str ⟨#[unqN b c]⟩ t) := by
  have hx3 : x.length = 3 := by rw [hx]; rfl
  unfold ConN
  k_fill
  w_on
  intro loose mean mg mb dp un gd cn cs ac ccd cl outer A₀ base h₀ L m news s Q E B F X N T' hk hd hu hP hret
  refine wpAny_call ?_
  k_dflt cell_enter
  w_strict k_steps
  refine Hold.mk ?_
  with_reducible rename News _ _ _ _ => lN'
  have hma := (lN' _ (hP _ (List.mem_cons_self ..))).1
  have hsp := (lN' _ (hP _ (List.mem_cons_of_mem _ (List.mem_cons_self ..)))).1
  dsimp only at hma hsp
  refine method_obj hma rfl rfl mat_getattribute mat_getattr slot_group type_group ?_
  w_strict k_steps
  refine call_group hma hsp hx3 ?_
  intro t5 k5
  w_strict k_steps
  exact hret _ _ _ (by assumption) (by assumption)
end Mine
end
section -- PureH
open PySem PySem.W PyProof.Rows
namespace Mine
def uS (c : Nat) : Nat := if (kH c).isU then 32 else c
theorem kH_isU (c : Nat) : (kH c).isU = decide (c = 95) := by
  unfold kH
  by_cases h1 : c = 61
  · subst h1; rfl
  · rw [if_neg h1]
    by_cases h2 : hexC c = true
    · rw [if_pos h2]
      by_cases h3 : c = 95
      · subst h3; exact absurd h2 (by decide)
      · rw [decide_eq_false h3]; rfl
    · rw [if_neg h2]
      by_cases h3 : c = 95
      · rw [if_pos h3, decide_eq_true h3]; rfl
      · rw [if_neg h3, decide_eq_false h3]; rfl
theorem kH_isE (c : Nat) : (kH c).isE = (c == 61) := by
  unfold kH
  by_cases h1 : c = 61
  · subst h1; rfl
  · rw [if_neg h1]
    have : (c == 61) = false := by simpa using h1
    rw [this]
    split
    · rfl
    · split <;> rfl
theorem kH_isX (c : Nat) : (kH c).isX = hexC c := by
  unfold kH
  by_cases h1 : c = 61
  · subst h1; rfl
  · rw [if_neg h1]
    by_cases h2 : hexC c = true
    · rw [if_pos h2, h2]; rfl
    · rw [if_neg h2]
      have : hexC c = false := by simpa using h2
      rw [this]
      split <;> rfl
theorem uS_of (c : Nat) : uS c = if c = 95 then 32 else c := by
  unfold uS
  rw [kH_isU]
  by_cases h : c = 95
  · simp [h]
  · simp [h]
theorem map_free : ∀ l : List Nat, 95 ∉ l → l.map uS = l
  | [], _ => rfl
  | k :: r, h => by
    have h1 : ¬ k = 95 := fun e => h (e ▸ List.mem_cons_self ..)
    rw [List.map_cons, map_free r fun m => h (List.mem_cons_of_mem _ m), uS_of, if_neg h1]
theorem rep_join : ∀ parts : List Str, (∀ p ∈ parts, 95 ∉ p.cps.toList) → (Str.join ⟨#[95]⟩ parts).cps.toList.map uS = (Str.join ⟨#[32]⟩ parts).cps.toList
  | [], _ => rfl
  | [p], h => map_free _ (h p (List.mem_singleton.mpr rfl))
  | p :: q :: r, h => by
    have ih := rep_join (q :: r) fun a ha => h a (List.mem_cons_of_mem _ ha)
    show (p ++ ⟨#[95]⟩ ++ Str.join ⟨#[95]⟩ (q :: r)).cps.toList.map uS = (p ++ ⟨#[32]⟩ ++ Str.join ⟨#[32]⟩ (q :: r)).cps.toList
    simp only [Str.cps_append, Array.toList_append, List.map_append]
    rw [ih, map_free _ (h p (List.mem_cons_self ..))]
    rfl
theorem replace_map (x y z : Str) (hy : y = ⟨#[95]⟩) (hz : z = ⟨#[32]⟩) : (Txt.replace x y z).cps.toList = x.cps.toList.map uS := by
  subst hy; subst hz
  rw [StrLaws.replace_one, ← rep_join _ (StrLaws.split_free x 95), StrLaws.join_split]
theorem hdr_eq (x : List Nat) : hdrA kH 32 unqN x = match x.map uS with
    | [c, a, b] => if (kH c).isE && (kH a).isX && (kH b).isX then [unqN a b] else [c, a, b]
    | y => y := by
  have : (x.map fun c => if (kH c).isU then 32 else c) = x.map uS := rfl
  unfold hdrA
  rw [this]
  generalize x.map uS = z
  rcases z with _ | ⟨c, _ | ⟨a, _ | ⟨b, _ | ⟨d, r⟩⟩⟩⟩ <;> rfl
theorem hyes_toList (y : Str) (c a b : Nat) (h : y.cps.toList = [c, a, b]) : hyes y.cps = ((c == 61) && (hexC a && hexC b)) := by
  have : y.cps = #[c, a, b] := by rw [← Array.toArray_toList (xs := y.cps), h]
  rw [this]; rfl
/-- nothing is found -/
theorem hdr_no {x y : Str} (e : y.cps.toList = x.cps.toList.map uS) (h : ¬ (y.length = 3 ∧ hyes y.cps = true)) : (⟨(hdrA kH 32 unqN x.cps.toList).toArray⟩ : Str) = y := by
  have : hdrA kH 32 unqN x.cps.toList = y.cps.toList := by
    rw [hdr_eq, ← e]
    split
    · rename_i c a b e1
      rw [if_neg]
      · exact e1.symm
      · intro hh
        refine h ⟨?_, ?_⟩
        · show y.cps.size = 3
          rw [← Array.length_toList, e1]; rfl
        · rw [hyes_toList y c a b e1, ← kH_isE, ← kH_isX, ← kH_isX, ← Bool.and_assoc]; exact hh
    · rfl
  rw [this, Array.toArray_toList]
/-- the one place -/
theorem hdr_yes {x y : Str} (e : y.cps.toList = x.cps.toList.map uS) (h3 : y.length = 3) (hy : hyes y.cps = true) (hf : ∀ c ∈ x.cps.toList, hexC c = true → c ∈ figs) :
    ∃ c a b, y = ⟨#[c, a, b]⟩ ∧ a ∈ figs ∧ b ∈ figs ∧ (⟨(hdrA kH 32 unqN x.cps.toList).toArray⟩ : Str) = ⟨#[unqN a b]⟩ := by
  have hl : y.cps.toList.length = 3 := by rw [Array.length_toList]; exact h3
  obtain ⟨c, a, b, e1⟩ : ∃ c a b, y.cps.toList = [c, a, b] := by
    match h : y.cps.toList, hl with
    | [c, a, b], _ => exact ⟨c, a, b, rfl⟩
  rw [hyes_toList y c a b e1] at hy
  simp only [Bool.and_eq_true] at hy
  obtain ⟨hc, ha, hb⟩ := hy
  have back : ∀ z, z ∈ y.cps.toList → hexC z = true → z ∈ figs := by
    intro z hz hx
    rw [e] at hz
    obtain ⟨o, ho, rfl⟩ := List.mem_map.mp hz
    rw [uS_of] at hx ⊢
    by_cases h5 : o = 95
    · rw [if_pos h5] at hx; exact absurd hx (by decide)
    · rw [if_neg h5] at hx ⊢; exact hf o ho hx
  refine ⟨c, a, b, ?_, back a (by rw [e1]; simp) ha, back b (by rw [e1]; simp) hb, ?_⟩
  · have : y.cps = #[c, a, b] := by rw [← Array.toArray_toList (xs := y.cps), e1]
    cases y
    simp only at this
    rw [this]
  · rw [hdr_eq, ← e, e1]
    simp only [kH_isE, kH_isX, hc, ha, hb, Bool.and_self, if_true]
theorem rep_len {x y : Str} (e : y.cps.toList = x.cps.toList.map uS) : y.length = x.length := by
  show y.cps.size = x.cps.size
  rw [← Array.length_toList, e, List.length_map, Array.length_toList]
end Mine
end
section -- C9
open PySem PySem.W PyProof.Rows PySem.Calls
namespace Mine
theorem conN_use {w : World} {f : Addr} {d u : Nat} {vs : List Value} {need : List (Addr × Obj)} {R : Tok → Value} (C : ConN w f d u vs need R)
    {loose : List Str} {mean : ExcName → Option Value} {mg mb : Str → Option Value} {dp un : Nat} {gd : Option (List Code)} {cn : Str} {cs : Scope} {a : Addr} {ccd : Value} {cl : List (Str × Addr)} {outer : List Env} {A₀ : Around} {base h₀ : Heap} {L : Addr} {m : Str → Option Value} {news : List (Addr × Obj)} {s : Shared} {Q E : Value → Shared → Prop}
    (B : Below A₀ base outer h₀) (F : Fr h₀ L s.heap m) (X : (Mine.hd.heap_39 w.params).In h₀) (N : News h₀ L s.heap news) (T : Top Mine.hd.view_39 loose mean mg mb h₀) (hk : cs.kind = .function) (hd : dp + d < recursionLimit) (hu : un + u < cLine) (hP : ∀ p ∈ need, p ∈ news)
    (ret : ∀ (t : Tok) (h' : Heap) (tk' : Nat), Fr h₀ L h' m → News h₀ L h' news → Q (R t) { s with heap := h', toks := tk' }) :
    wpAny (model PySem.Challenge.rw_dm5005_01.row.prog w) (ktrTop dp un gd cn cs L a ccd cl outer) (call (.ref f) vs) Q E s :=
  C _ _ _ _ _ _ _ _ _ _ _ _ _ _ _ _ _ _ _ _ _ _ B F X N T hk hd hu hP ret
theorem Pc.led {h₀ h : Heap} {L l a T : Addr} {m : Str → Option Value} {news : List (Addr × Obj)} {xs : Array Value} {o o' : Obj} (P : Pc h₀ L h m ((a, o) :: (T, o') :: news) l xs) :
    ∃ n, News h₀ L h ((a, o) :: (T, o') :: (l, listO xs n) :: news) := by
  obtain ⟨n, ho⟩ := P.at_
  refine ⟨n, fun p hp => ?_⟩
  rcases List.mem_cons.mp hp with rfl | hp
  · exact P.N _ (List.mem_cons_self ..)
  · rcases List.mem_cons.mp hp with rfl | hp
    · exact P.N _ (List.mem_cons_of_mem _ (List.mem_cons_self ..))
    · rcases List.mem_cons.mp hp with rfl | hp
      · exact ⟨ho, P.ne, P.new⟩
      · exact P.N _ (List.mem_cons_of_mem _ (List.mem_cons_of_mem _ hp))
theorem Pc.back {h₀ h h' : Heap} {L l a T : Addr} {m : Str → Option Value} {news : List (Addr × Obj)} {xs : Array Value} {o o' : Obj} {n : Nat} (P : Pc h₀ L h m ((a, o) :: (T, o') :: news) l xs)
    (F : Fr h₀ L h' m) (N : News h₀ L h' ((a, o) :: (T, o') :: (l, listO xs n) :: news)) : Pc h₀ L h' m ((a, o) :: (T, o') :: news) l xs := by
  refine ⟨F, fun p hp => N p ?_, ⟨n, (N (l, listO xs n) (by simp)).1⟩, P.ne, P.new, P.off⟩
  simp only [List.mem_cons] at hp ⊢
  rcases hp with h | h | h
  · exact .inl h
  · exact .inr (.inl h)
  · exact .inr (.inr (.inr h))
local macro_rules | `(tactic| walk_at "execs cons") => `(tactic| (k_here; (with_reducible refine wpAny_execs_cons ?_); try dsimp only))
local macro_rules | `(tactic| walk_at "getMethod ref") => `(tactic| (k_here; refine hold ?_))
local macro_rules | `(tactic| walk_at "call builtin:str.replace") => `(tactic| (k_here; refine hold ?_))
set_option maxRecDepth 100000 in
set_option maxHeartbeats 4000000 in
theorem con_header (w : World) (x : Str) (t : Tok) (hx : x.length ≤ 3) (hf : ∀ c ∈ x.cps.toList, hexC c = true → c ∈ figs) : Con w 101 6 32 [.str x t] True (fun t => .str ⟨(hdrA kH 32 unqN x.cps.toList).toArray⟩ t) := by
  unfold Con
  k_fill
  w_on
  intro loose mean mg mb dp un gd cn cs ac ccd cl outer A₀ base h₀ L m news s Q E B F X N T hk hd hu hP hret
  refine wpAny_call ?_
  k_dflt cell_enter
  w_strict k_steps
  refine Hold.mk ?_
  refine SC.replaceW (by show @Ne Nat _ _; simp; try omega) (by show @Ne Nat _ _; simp; try omega) (by show @Ne Nat _ _; simp; try omega) (by decide +kernel) (by omega) (by decide +kernel) ?_
  intro t5 k5
  have eY := replace_map x (Str.ofString "_") (Str.ofString " ") (by decide +kernel) (by decide +kernel)
  generalize Txt.replace x (Str.ofString "_") (Str.ofString " ") = y at eY ⊢
  have hy3 : y.length ≤ 3 := by rw [rep_len eY]; exact hx
  w_strict k_steps
  refine Hold.mk ?_
  with_reducible rename (Mine.hd.heap_39 w.params).In _ => lX'
  with_reducible rename Fr _ _ _ _ => lF'
  with_reducible rename News _ _ _ _ => lN'
  with_reducible rename Below _ _ _ _ => lB'
  with_reducible rename Top _ _ _ _ _ _ => lT'
  have R0 := re_of w _ rfl lX'
  refine method_obj (R0.keep lF'.keep).p rfl rfl pat_getattribute pat_getattr slot_sub type_sub ?_
  w_strict k_steps
  refine call_sub R0 lF' lN' ?_
  intro l h6 P6
  by_cases hy : y.length = 3 ∧ hyes y.cps = true
  · obtain ⟨e, b, c, hyv, hb, hc, hr⟩ := hdr_yes eY hy.1 hy.2 hf
    rw [hr] at hret
    refine loop_yes R0 P6 hy.1 hy.2 (z := ⟨#[unqN b c]⟩) (show 1 ≤ 3 by decide) ?_ ?_
    · intro a T h7 Q7 P7 hq7
      obtain ⟨n7, N7⟩ := P7.led
      refine' conN_use (con_um w y _ a T e b c hyv hb hc) lB' P7.F lX' N7 lT' ?hk ?hd ?hu ?hn ?hr
      case hk => exact rfl
      case hd => ktr_room
      case hu => ktr_units
      case hn => exact fun p hp => by (rcases List.mem_cons.mp hp with rfl | hp; exact List.mem_cons_self ..); rw [List.mem_singleton.mp hp]; exact List.mem_cons_of_mem _ (List.mem_cons_self ..)
      case hr => exact fun t9 h9 k9 F9 N9 => hq7 h9 t9 k9 (P7.back F9 N9)
    · intro h9 t9 k9 F9 N9
      clear lF' lN'
      w_strict k_steps
      exact hret t9 h9 k9 (by assumption) (by assumption)
  · rw [hdr_no eY hy] at hret
    refine loop_none R0 P6 0 hy3 ?_ ?_
    · by_cases h3 : y.length = 3
      · exact .inr ⟨h3, rfl, rfl, by cases e : hyes y.cps with | false => rfl | true => exact absurd ⟨h3, e⟩ hy⟩
      · exact .inl (by omega)
    · intro h9 t9 k9 F9 N9
      clear lF' lN'
      w_strict k_steps
      exact hret t9 h9 k9 (by assumption) (by assumption)
end Mine
end
section -- X6
open PySem PySem.W PyProof.Rows PySem.Calls
set_option maxRecDepth 100000
namespace Mine
/-- a figure of two -/
def hexU (n : Nat) : Nat := if n < 10 then 48 + n else 55 + n
def q1N (c : Nat) : Nat := hexU (c / 16 % 16)
def q2N (c : Nat) : Nat := hexU (c % 16)
def mapC (c : Nat) : List Nat := if (kB c).kept then [c] else [61, q1N c, q2N c]
theorem transA_mapC (l : List Nat) : transA kB 61 q1N q2N l = l.flatMap mapC := rfl
def grew (h h' : Heap) : Prop := ∀ b o, h.get? b = some o → h'.get? b = some o
/-- the table as the translation sees it -/
structure Tab (h : Heap) (l : Addr) : Prop where
  ex : ∃ items, h.IsList l items ∧ items.size = 256 ∧ ∀ c, c < 256 → ∃ t, items[c]? = some (.str ⟨(mapC c).toArray⟩ t)
theorem Tab.grew {h h' : Heap} {l : Addr} (T : Tab h l) (g : grew h h') : Tab h' l := by
  obtain ⟨items, ⟨o, ho, r⟩, hs, hx⟩ := T.ex
  exact ⟨items, ⟨o, g _ _ ho, r⟩, hs, hx⟩
theorem exc_lookup : isSubtype (.type "IndexError") (.type "LookupError") = pure true := by rw [isSubtype_type]; kernel_rfl

theorem mapC_len (c : Nat) : (mapC c).length ≤ 3 := by unfold mapC; split <;> simp
theorem mapC_big {c : Nat} (h : 256 ≤ c) : mapC c = [c] := by
  have : (kB c).kept = true := by
    unfold kB
    rw [if_neg (by omega), if_neg (by omega), if_neg (by omega), if_neg (by omega), if_neg (by omega)]
    split <;> rfl
  unfold mapC
  rw [if_pos this]
structure TrI (x : Str) (h : Heap) (g : Array GenState) (d : Drawn) (os : OsState) (rest : List Nat) (b : List Str × Nat × Bool × List (Nat × Option Nat) × Bool) (s' : Shared) : Prop where
  ex : ∃ h' k' pre, s' = ⟨h', g, d, k', os⟩ ∧ grew h h' ∧ x.cps.toList = pre ++ rest ∧ (b.1.reverse.foldl (fun acc p => acc ++ p.cps) (#[] : Array Nat)) = (pre.flatMap mapC).toArray ∧ b.2.1 = (pre.flatMap mapC).length
  known : ∀ p ∈ b.2.2.2.1, p.2 = some p.1 ∧ mapC p.1 = [p.1]
  ad : b.2.2.2.2 = false
  fast : b.2.2.1 = true → ∀ c ∈ x.cps.toList, c < 128
theorem TrI.next {x : Str} {h h' : Heap} {g : Array GenState} {d : Drawn} {os : OsState} {rest pre : List Nat} {c tot k' : Nat} {p : List Str} {fast : Bool} {known : List (Nat × Option Nat)} {q : Str} {n : Nat} (hg : grew h h') (hx : x.cps.toList = pre ++ c :: rest)
    (hp : (p.reverse.foldl (fun acc p => acc ++ p.cps) (#[] : Array Nat)) = (pre.flatMap mapC).toArray) (ht : tot = (pre.flatMap mapC).length) (hk : ∀ p ∈ known, p.2 = some p.1 ∧ mapC p.1 = [p.1]) (hf : fast = true → ∀ c ∈ x.cps.toList, c < 128) (hq : q.cps.toList = mapC c) (hn : n = (mapC c).length) :
    TrI x h g d os rest (q :: p, tot + n, fast, known, false) ⟨h', g, d, k', os⟩ := by
  refine ⟨⟨h', k', pre ++ [c], rfl, hg, ?_, ?_, ?_⟩, hk, rfl, hf⟩
  · rw [hx, List.append_assoc]; rfl
  · show ((q :: p).reverse.foldl _ _) = _
    rw [List.reverse_cons, List.foldl_append, hp]
    show (pre.flatMap mapC).toArray ++ q.cps = _
    rw [List.flatMap_append]
    have : q.cps = (mapC c).toArray := by rw [← hq, Array.toArray_toList]
    rw [this]
    simp
  · show tot + n = _
    rw [List.flatMap_append, List.length_append, ht, hn]
    simp
theorem look_known {c : Nat} {a : Option Nat} : ∀ {known : List (Nat × Option Nat)}, (∀ p ∈ known, p.2 = some p.1 ∧ mapC p.1 = [p.1]) → known.lookup c = some a → a = some c ∧ mapC c = [c]
  | [], _, h => nomatch h
  | (e, b) :: r, hk, h => by
    rw [List.lookup_cons] at h
    cases hc : c == e with
    | true =>
      rw [hc] at h
      have := hk (e, b) (List.mem_cons_self ..)
      rw [beq_iff_eq] at hc
      subst hc
      simp only [Option.some.injEq] at h
      subst h
      exact this
    | false => rw [hc] at h; exact look_known (fun p hp => hk p (List.mem_cons_of_mem _ hp)) h
section
variable {prog : Program} {w : World} {A : Around} {E : Value → Shared → Prop} {h : Heap} {g : Array GenState} {d : Drawn} {k : Nat} {os : OsState} {l : Addr}
theorem look_in {c : Nat} {Q : Builtin.Str.Mapped → Shared → Prop} (T : Tab h l) (hc : c < 256) (hq : ∀ k', Q (.text ⟨(mapC c).toArray⟩) ⟨h, g, d, k', os⟩) :
    wpAny (model prog w) A (Builtin.Str.tableLookup (.ref l) c) Q E ⟨h, g, d, k, os⟩ := by
  obtain ⟨items, hl, hs, hx⟩ := T.ex
  obtain ⟨t, ht⟩ := hx c hc
  unfold Builtin.Str.tableLookup
  refine wpAny_bind (wpAny_attempt (wpAny_bind (wpAny_mkInt (wpAny_getItem_list hl (by omega) (by omega) (x := .str ⟨(mapC c).toArray⟩ t) ht ?_))))
  refine wpAny_bind (wpAny_pure ?_)
  refine wpAny_bind (wpAny_pure ?_)
  exact wpAny_pure (hq _)
theorem look_out {c : Nat} {Q : Builtin.Str.Mapped → Shared → Prop} (hA : A.handled = none) (T : Tab h l) (hc : 256 ≤ c) (hc2 : c < 2 ^ 32) (hq : ∀ h' k', grew h h' → Q .keep ⟨h', g, d, k', os⟩) :
    wpAny (model prog w) A (Builtin.Str.tableLookup (.ref l) c) Q E ⟨h, g, d, k, os⟩ := by
  obtain ⟨items, hl, hs, hx⟩ := T.ex
  unfold Builtin.Str.tableLookup
  refine wpAny_bind (wpAny_attempt (wpAny_bind (wpAny_mkInt (wpAny_getItem_list_out hA hl (.inr (by omega)) (by omega) (by omega) fun h' tk e hE => ?_))))
  obtain ⟨ob, t, he, hcls, _⟩ := hE.there
  have hT : (⟨h', g, d, tk, os⟩ : Shared).TypeIs (.ref e) "IndexError" := ⟨ob, he, hcls⟩
  refine wpAny_bind (wpAny_isInstance hT exc_lookup ?_)
  exact wpAny_bind (wpAny_rule (wpAny_pure (hq _ _ hE.keeps)))
set_option maxHeartbeats 1000000 in
theorem trans_call {x : Str} {t : Tok} {Q : Value → Shared → Prop} (hA : A.handled = none) (T : Tab h l) (h0 : 0 < x.length) (hx : x.length ≤ 100) (hc : ∀ c ∈ x.cps.toList, c < 2 ^ 32)
    (hq : ∀ h' t' k', grew h h' → Q (.str ⟨(transA kB 61 q1N q2N x.cps.toList).toArray⟩ t') ⟨h', g, d, k', os⟩) :
    wpAny (model prog w) A (call (.builtin "str.translate") [.str x t, .ref l]) Q E ⟨h, g, d, k, os⟩ := by
  refine wpAny_call (codeAny_call_builtin slot_translate.plain entry_translate (slot_translate.check _ _ _ _ _ _ _ _ (typeIs_str _ _ _) (args_translate _ _) ?_))
  unfold Builtin.«str.translate»
  refine wpAny_bind (wpAny_pure ?_)
  show wpAny _ _ (if (x.length == 0) = true then _ else _) _ _ _
  rw [if_neg (by simp; omega)]
  refine wpAny_bind (MeetsSeq2.wpAny_forIn_array _ (TrI x h g d os) _ ?_ ?_ _ _ ?_)
  · rintro c rest ⟨p, tot, fast, known, ad⟩ s' ⟨⟨h', k', pre, rfl, hg, hxe, hp, ht⟩, hk, had, hf⟩
    dsimp only at hp ht hk had hf
    subst had
    have T' := T.grew hg
    have hcl : pre.length ≤ 100 := by
      have : x.cps.toList.length ≤ 100 := by rw [Array.length_toList]; exact hx
      rw [hxe] at this; simp at this; omega
    have htot : tot ≤ 300 := by
      rw [ht]
      have : ∀ l : List Nat, (l.flatMap mapC).length ≤ 3 * l.length := by
        intro l
        induction l with
        | nil => simp
        | cons a r ih => rw [List.flatMap_cons, List.length_append, List.length_cons]; have := mapC_len a; omega
      have := this pre
      omega
    have hmem : c ∈ x.cps.toList := by rw [hxe]; simp
    have htl : Builtin.Str.tooLong tot = false := by
      unfold Builtin.Str.tooLong
      rw [sizeLine_eq]
      exact decide_eq_false (by omega)
    dsimp only
    rw [if_neg (by rw [htl]; decide)]
    cases fast with
    | false =>
      rw [if_neg (by decide)]
      rw [if_neg (by decide)]
      by_cases hc6 : c < 256
      · refine wpAny_bind (look_in T' hc6 fun k2 => ?_)
        exact wpAny_pure (TrI.next hg hxe hp ht hk hf (by simp) (by simp [Str.length]))
      · refine wpAny_bind (look_out hA T' (by omega) (hc c hmem) fun h2 k2 g2 => ?_)
        exact wpAny_pure (TrI.next (fun b o e => g2 _ _ (hg _ _ e)) hxe hp ht hk hf (by rw [mapC_big (by omega)]) (by rw [mapC_big (by omega)]; rfl))
    | true =>
      rw [if_pos rfl]
      have hc1 : c < 128 := hf rfl c hmem
      cases hl : known.lookup c with
      | some a =>
        obtain ⟨rfl, hm⟩ := look_known hk hl
        refine wpAny_bind (wpAny_pure ?_)
        exact wpAny_pure (TrI.next hg hxe hp ht hk hf (by rw [hm]) (by rw [hm]; rfl))
      | none =>
        refine wpAny_bind (look_in T' (by omega) fun k2 => ?_)
        dsimp only
        by_cases hkp : (kB c).kept = true
        · have hm : mapC c = [c] := by unfold mapC; rw [if_pos hkp]
          rw [hm]
          rw [if_pos (by simp [Str.length]; exact hc1)]
          refine wpAny_bind (wpAny_pure ?_)
          refine wpAny_pure (TrI.next hg hxe hp ht ?_ hf (by rw [hm]; rfl) (by rw [hm]; rfl))
          intro p hp'
          rcases List.mem_cons.mp hp' with rfl | hp'
          · exact ⟨rfl, hm⟩
          · exact hk p hp'
        · have hm : mapC c = [61, q1N c, q2N c] := by unfold mapC; rw [if_neg hkp]
          rw [hm]
          rw [if_neg (fun hh => nomatch hh)]
          refine wpAny_bind (wpAny_pure ?_)
          refine wpAny_bind (wpAny_rule ?_)
          rw [if_neg (by decide)]
          refine wpAny_bind (look_in T' (by omega) fun k3 => ?_)
          exact wpAny_pure (TrI.next hg hxe hp ht hk (fun h => nomatch h) (by simp) (by simp [Str.length]))
  · rintro ⟨p, tot, fast, known, ad⟩ s' ⟨⟨h', k', pre, rfl, hg, hxe, hp, ht⟩, hk, had, hf⟩
    dsimp only at hp ht hk had hf ⊢
    rw [List.append_nil] at hxe
    have hlen : (pre.flatMap mapC).length ≤ 300 := by
      have : ∀ l : List Nat, (l.flatMap mapC).length ≤ 3 * l.length := by
        intro l
        induction l with
        | nil => simp
        | cons a r ih => rw [List.flatMap_cons, List.length_append, List.length_cons]; have := mapC_len a; omega
      have h1 := this pre
      have h2 : pre.length ≤ 100 := by rw [← hxe, Array.length_toList]; exact hx
      omega
    rw [if_neg (by unfold Builtin.Str.tooLong; rw [sizeLine_eq, ht, decide_eq_true_eq]; omega)]
    rw [hp]
    have e : transA kB 61 q1N q2N x.cps.toList = pre.flatMap mapC := by rw [hxe]; rfl
    rw [e] at hq
    unfold retStr
    refine wpAny_bind (wpAny_mkStr ?_ (by show (pre.flatMap mapC).toArray.size ≤ _; rw [List.size_toArray, sizeLine_eq]; omega))
    exact wpAny_pure (hq _ _ _ hg)
  · exact ⟨⟨h, k, [], rfl, fun _ _ e => e, rfl, rfl, rfl⟩, fun p hp => (nomatch hp), rfl, fun hf c hc => by
      simp only [Array.all_eq_true', decide_eq_true_eq] at hf
      exact hf c (by simpa using hc)⟩
end
end Mine
end
section -- X7
open PySem PySem.W PyProof.Rows PySem.Calls
set_option maxRecDepth 100000
namespace Mine
def chkTab (items : Array Value) : Bool := (List.range 256).all fun c => match items[c]? with
  | some (.str s _) => s.cps.toList == mapC c
  | _ => false
theorem tab_get (items : Array Value) (h : chkTab items = true) (c : Nat) (hc : c < 256) : ∃ t, items[c]? = some (.str ⟨(mapC c).toArray⟩ t) := by
  have := List.all_eq_true.mp h c (List.mem_range.mpr hc)
  cases e : items[c]? with
  | none => rw [e] at this; exact nomatch this
  | some v =>
    rw [e] at this
    cases v with
    | str s t =>
      have hs : s.cps.toList = mapC c := by simpa using this
      refine ⟨t, ?_⟩
      have : s = ⟨(mapC c).toArray⟩ := by
        cases s
        simp only at hs
        rw [← hs, Array.toArray_toList]
      rw [this]
    | _ => exact nomatch this
theorem tab_of (w : World) (h : Heap) : PySem.Challenge.rw_dm5005_01 = PySem.Challenge.rw_dm5005_01 → (Mine.hd.heap_39 w.params).In h → Tab h 68 := by
  k_fill
  intro _ X
  have h68 := X 68 _ (by k_is)
  exact ⟨⟨_, ⟨_, h68, rfl, _, rfl⟩, by rfl, tab_get _ (by decide +kernel)⟩⟩
end Mine
end
section -- C7
open PySem PySem.W PyProof.Rows PySem.Calls
namespace Mine
def chkQ (xs : List Str) : Bool := (List.range 256).all fun c => decide (xs.getD c Str.empty = ⟨#[61, q1N c, q2N c]⟩)
theorem quote_get (xs : List Str) (h : chkQ xs = true) (c : Nat) (hc : c < 256) : xs.getD ((c : Nat) : Int).toNat Str.empty = ⟨#[61, q1N c, q2N c]⟩ := by
  have := List.all_eq_true.mp h c (List.mem_range.mpr hc)
  exact of_decide_eq_true this
set_option maxRecDepth 100000 in
set_option maxHeartbeats 4000000 in
theorem con_quote (w : World) (x : Str) (c : Nat) (t : Tok) (hx : x = ⟨#[c]⟩) (hc : c < 256) : Con w 66 1 8 [.str x t] True (fun t => .str ⟨#[61, q1N c, q2N c]⟩ t) := by
  subst hx
  unfold Con
  k_fill
  w_on
  intro loose mean mg mb dp un gd cn cs ac ccd cl outer A₀ base h₀ L m news s Q E B F X N T hk hd hu hP hret
  refine wpAny_call ?_
  k_dflt cell_enter
  w_strict k_steps
  rw [quote_get _ (by decide +kernel) c hc]
  exact hret _ _ _ (by assumption) (by assumption)
end Mine
end
section -- X8
open PySem PySem.W PyProof.Rows PySem.Calls
set_option maxRecDepth 100000
namespace Mine
theorem md_get : typeLookup (.type "method_descriptor") "__get__" = pure (some (.builtin "method_descriptor.__get__")) := by rw [typeLookup_type, builtinLookup_eq_fast]; kernel_rfl
theorem md_set : typeLookup (.type "method_descriptor") "__set__" = pure none := by rw [typeLookup_type, builtinLookup_eq_fast]; kernel_rfl
theorem md_delete : typeLookup (.type "method_descriptor") "__delete__" = pure none := by rw [typeLookup_type, builtinLookup_eq_fast]; kernel_rfl
theorem slot_mdget : Slot "method_descriptor" "__get__" "method_descriptor.__get__" :=
  .of (owner := "method_descriptor") (n := "__get__") (by rw [typeLookup_type, builtinLookup_eq_fast]; kernel_rfl) (by decide +kernel) (by decide +kernel) (by decide +kernel)
    (by first | exact .inl (by decide +kernel) | exact .inr (by decide +kernel)) (by rw [isSubtype_type]; kernel_rfl)
theorem entry_mdget : entryFor table "method_descriptor.__get__" = some Builtin.«method_descriptor.__get__» := entryFor_of_tree (by kernel_rfl)
theorem args_mdget (a b c : Value) : argsOk "method_descriptor.__get__" ⟨[a, b, c], []⟩ := by unfold argsOk; kernel_rfl
theorem owner_ap : (kfb_private% "ownerAndName") "list.append" = ("list", "append") := by first | decide +kernel | kernel_rfl
theorem sub_list_list : isSubtype (.type "list") (.type "list") = pure true := by rw [isSubtype_type]; kernel_rfl
theorem told_ap : Manifest.toldItsClass.contains "list.append" = false := by decide +kernel
def bnd (l : Addr) : Obj := { cls := .type "builtin_function_or_method", data := .fields #[.builtin "list.append", .ref l] }
section
variable {prog : Program} {w : World} {M : Model} {A : Around} {E : Value → Shared → Prop} {hp : Heap} {g : Array GenState} {d : Drawn} {tk : Nat} {os : OsState} {l : Addr} {xs : Array Value} {k : Nat}
theorem run_mdget {P : Fin → Shared → Prop} {a : Addr} (hx : hp.get? a = some { cls := .type "list", dict := none, data := .seq xs k, slots := #[] }) (h : P (.done (.ret (.ref hp.objs.size))) ⟨hp.push (bnd a), g, d, tk, os⟩) :
    wpAny M A (Builtin.«method_descriptor.__get__» ⟨[.builtin "list.append", .ref a, .type "list"], []⟩) P E ⟨hp, g, d, tk, os⟩ := by
  have hT : (⟨hp, g, d, tk, os⟩ : Shared).TypeIs (.ref a) "list" := ⟨_, hx, rfl⟩
  unfold Builtin.«method_descriptor.__get__»
  refine wpAny_bind (wpAny_of_eq (a := (.builtin "list.append", some (.ref a), some (.type "list"))) (by first | rfl | kernel_rfl) ?_)
  simp only [told_ap]
  show wpAny M A (do (do let (name, cls) ← pure (((kfb_private% "ownerAndName") "list.append").2, Value.type ((kfb_private% "ownerAndName") "list.append").1); _); _) P E _
  have e : (".".intercalate ("list.append".cutAt '.').dropLast) = "list" := by decide +kernel
  refine wpAny_bind (wpAny_bind (wpAny_pure ?_))
  dsimp only
  rw [e]
  refine wpAny_bind (wpAny_isInstance hT sub_list_list ?_)
  rw [if_neg (by decide)]
  refine wpAny_pure ?_
  unfold newFields
  refine wpAny_bind (wpAny_newObj_type (wpAny_pure h))
theorem append_of {R : Result → Shared → Prop} {a : Addr} {u : Tok} (hx : hp.get? a = some { cls := .type "list", dict := none, data := .seq xs k, slots := #[] }) (h : R (.ok (.ret (.ref hp.objs.size))) ⟨hp.push (bnd a), g, d, tk, os⟩) :
   wpAny (model prog w) A.in1 (Builtin.«object.__getattribute__» ⟨[.ref a, .str "append" u], []⟩) (fun fin s' => ∃ v, fin = .done (.ret v) ∧ R (.ok (.ret v)) s') (fun e s' => R (.error e) s') ⟨hp, g, d, tk, os⟩ := by
  have hT : (⟨hp, g, d, tk, os⟩ : Shared).TypeIs (.ref a) "list" := ⟨_, hx, rfl⟩
  have h1 := F.slot_list_append.lookup
  have h2 := F.type_list_append
  have h3 := md_get
  have h4 := md_set
  have h5 := md_delete
  unfold Builtin.«object.__getattribute__»
  repeat (any_goals (first | assumption | ((with_reducible show codeAny _ _ (Code.call (Value.builtin "method_descriptor.__get__") _) _ _); refine codeAny_call_builtin slot_mdget.plain entry_mdget (slot_mdget.check _ _ _ _ _ _ _ _ (by exact F.type_list_append) (args_mdget _ _ _) (run_mdget hx ?_))) | wp_step))
  exact ⟨_, rfl, h⟩
theorem get_append {a : Addr} {Q : Value → Shared → Prop} (hx : hp.get? a = some { cls := .type "list", dict := none, data := .seq xs k, slots := #[] }) (hA : A.handled = none)
    (h : ∀ k', Q (.ref hp.objs.size) ⟨hp.push (bnd a), g, d, k', os⟩) : wpAny (model prog w) A (getAttr (.ref a) "append" true) Q E ⟨hp, g, d, tk, os⟩ := by
  have hT : ∀ tk', (⟨hp, g, d, tk', os⟩ : Shared).TypeIs (.ref a) "list" := fun _ => ⟨_, hx, rfl⟩
  have f3 := F.slot_list_getattribute.lookup
  have f4 := F.slot_list_getattribute.bind (.ref a)
  have f5 := am_list_getattr_none
  unfold getAttr getAttrBy
  repeat (any_goals (first | assumption | exact hT _ | ((with_reducible show wpAny _ _ (call (Value.builtin "list.__getattribute__") _ _) _ _ _); refine call_meets F.slot_list_getattribute (hT _) am_entry_list_getattribute (F.args_list_getattribute_2 _ _) (S := fun A R s => ∃ hp g d tk os, s = ⟨hp, g, d, tk, os⟩ ∧ hp.get? a = some { cls := .type "list", dict := none, data := .seq xs k, slots := #[] } ∧ R (.ok (.ret (.ref hp.objs.size))) ⟨hp.push (bnd a), g, d, tk, os⟩) (Meets.of_wp fun prog w A R s hs => by obtain ⟨hp, g, d, tk, os, rfl, hx, hr⟩ := hs; exact append_of hx hr) ⟨_, _, _, _, _, rfl, hx, ?_⟩) | wp_step))
  show wpAny (model prog w) A (handedOut (.ref hp.objs.size)) Q E _
  have hb : (hp.push (bnd a)).get? hp.objs.size = some (bnd a) := Heap.get?_push_size _ rfl
  unfold handedOut
  repeat (any_goals (first | assumption | exact h _ | wp_step))
theorem sub_list_module : isSubtype (.type "list") (.type "module") = pure false := by rw [isSubtype_type]; kernel_rfl
theorem check_ap {x : Value} {a : Addr} {Q : Unit → Shared → Prop} (hx : hp.get? a = some { cls := .type "list", dict := none, data := .seq xs k, slots := #[] }) (h : Q () ⟨hp, g, d, tk, os⟩) :
    wpAny M A (checkBoundCall "list.append" ⟨[.ref a, x], []⟩) Q E ⟨hp, g, d, tk, os⟩ := by
  have hT : (⟨hp, g, d, tk, os⟩ : Shared).TypeIs (.ref a) "list" := ⟨_, hx, rfl⟩
  have h1 := sub_list_module
  unfold checkBoundCall
  rw [signature?_of (id := "list.append") (n := ['d', 'n', 'e', 'p', 'p', 'a']) (o := ['t', 's', 'i', 'l']) (by kernel_rfl) F.owner_list]
  repeat (any_goals (first | assumption | wp_step))
theorem callWith_bndF {pos : Pos} {u a : Addr} {args : List (Bool × Sem Value)} {Q : Value → Shared → Prop} {s : Shared} (hplain : args.any (·.1) = false)
    (h : wpAny M A (evalArgs (.ref u) true args []) (fun x s₁ => s₁.heap.get? u = some (bnd a) ∧ wpAny M A (call (.ref u) ([] ++ x.pos) x.kw) Q E s₁) E s) : wpAny M A (callWith pos (.ref u) [] args []) Q E s := by
  unfold callWith
  refine wpAny_bind (wpAny_holding (wpAny_mono h (fun x s₁ h₁ => wpAny_bind (wpAny_standAt ?_)) fun _ _ x => x))
  obtain ⟨ho, hcall⟩ := h₁
  simp only [hplain, List.any_nil, Bool.or_false]
  refine wpAny_bind (m := keeperOf (.ref u)) ?_
  unfold keeperOf
  refine wpAny_bind (wpAny_load ho ?_)
  simp only [bnd, show (Value.type "builtin_function_or_method" != Value.type "method") = true by decide, show (Value.type "builtin_function_or_method" == Value.type "builtin_function_or_method" || Value.type "builtin_function_or_method" == Value.type "method-wrapper") = true by decide, if_true]
  refine wpAny_pure ?_
  exact wpAny_bind (wpAny_mono hcall (fun r s₂ hr => wpAny_bind (wpAny_holding (wpAny_point (wpAny_pure hr)))) fun _ _ x => x)
theorem callWith_bnd {pos : Pos} {u a : Addr} {env : Env} {e : Expr} {Q : Value → Shared → Prop} {s : Shared}
    (h : wpAny M A (spliced (backTo pos (starEach [e] env))) (fun vs s₁ => s₁.heap.get? u = some (bnd a) ∧ wpAny M A (call (.ref u) ([] ++ vs)) Q E s₁) E s)
    (he : starEach [e] env = (false, eval e env) :: starEach [] env := by rfl) :
    wpAny M A (callWith pos (.ref u) [] (backTo pos (starEach [e] env)) []) Q E s := by
  rw [he] at h ⊢
  refine callWith_bndF (a := a) (by rfl) ?_
  exact evalArgs_plain h
theorem call_bnd {u a : Addr} {x : Value} {Q : Value → Shared → Prop} (hu : hp.get? u = some (bnd a)) (hx : hp.get? a = some { cls := .type "list", dict := none, data := .seq xs k, slots := #[] }) (hsz : xs.size ≤ 100000)
    (h : ∀ h' k', Heap.SameBut a hp h' → h'.get? a = some { cls := .type "list", dict := none, data := .seq (xs.push x) k', slots := #[] } → Q .none ⟨h', g, d, tk, os⟩) :
    wpAny (model prog w) A (call (.ref u) [x]) Q E ⟨hp, g, d, tk, os⟩ := by
  refine wpAny_call (codeAny_of_tree ?_)
  show wpAny _ A.in1 (callAny (.ref u) ⟨[x], []⟩) _ _ _
  simp only [callAny]
  refine wpAny_bind (wpAny_load hu ?_)
  simp only [bnd, show (Value.type "builtin_function_or_method" == Value.type "method" || Value.type "builtin_function_or_method" == Value.type "builtin_function_or_method" || Value.type "builtin_function_or_method" == Value.type "method-wrapper") = true by decide, if_true]
  refine KFB.if_so (by decide) ?_
  refine wpAny_bind (check_ap hx ?_)
  refine wpAny_bind (wpAny_pure (wpAny_pure ?_))
  refine ⟨Code.quiet_builtin _ (by decide +kernel), codeAny_builtin PySem.entry_list_append ?_⟩
  show wpAny _ _ (updateSeq a (·.push x) >>= fun _ => ret .none) _ _ _
  have h1 := Heap.get?_update_self (h := hp) (Obj.mapSeq (·.push x)) hx rfl
  refine wpAny_bind (wpAny_updateSeq hx rfl (wpAny_pure (h _ _ (Heap.SameBut.update ..) h1)) (by rw [sizeLine_eq]; omega) (by rw [sizeLine_eq]; simp; omega))
end
end Mine
end
section -- X9
open PySem PySem.W PyProof.Rows PySem.Calls
namespace Mine
/-- a call of the bound append is due -/
structure BndCall (p : Prop) : Prop where
  out : p
section
variable {prog : Program} {w : World} {A : Around} {E : Value → Shared → Prop} {s : Shared} {h₀ : Heap} {L b l : Addr} {m : Str → Option Value} {news : List (Addr × Obj)} {xs : Array Value} {n : Nat}
theorem get_appendN {Q : Value → Shared → Prop} (F : Fr h₀ L s.heap m) (N : News h₀ L s.heap ((l, W.listOf xs n) :: news)) (hA : A.handled = none)
    (h : ∀ b h' k', Fr h₀ L h' m → News h₀ L h' ((b, bnd l) :: (l, W.listOf xs n) :: news) → (∀ p ∈ (l, W.listOf xs n) :: news, p.1 < b) → Q (.ref b) { s with heap := h', toks := k' }) :
    wpAny (model prog w) A (getAttr (.ref l) "append" true) Q E s :=
  get_append (N _ (List.mem_cons_self ..)).1 hA fun k' => h _ _ k' (F.push _) (N.push F (bnd l) rfl) (fun p hp => Heap.lt_size (N p hp).1)
theorem callWith_led {pos : Pos} {env : Env} {e : Expr} {led : List (Addr × Obj)} {Q : Value → Shared → Prop} (N : News h₀ L s.heap led) (hm : (b, bnd l) ∈ led)
    (h : wpAny (model prog w) A (spliced (backTo pos (starEach [e] env))) (fun vs s₁ => BndCall (s₁.heap.get? b = some (bnd l) ∧ wpAny (model prog w) A (call (.ref b) ([] ++ vs)) Q E s₁)) E s)
    (he : starEach [e] env = (false, eval e env) :: starEach [] env := by rfl) :
    wpAny (model prog w) A (callWith pos (.ref b) [] (backTo pos (starEach [e] env)) []) Q E s :=
  callWith_bnd (a := l) (wpAny_mono h (fun _ _ x => x.out) fun _ _ x => x) he
theorem bnd_call {x : Value} {Q : Value → Shared → Prop} (F : Fr h₀ L s.heap m) (N : News h₀ L s.heap ((b, bnd l) :: (l, W.listOf xs n) :: news)) (off : ∀ p ∈ news, p.1 ≠ l) (hsz : xs.size ≤ 100000)
    (h : ∀ h' k', Fr h₀ L h' m → News h₀ L h' ((b, bnd l) :: (l, W.listOf (xs.push x) k') :: news) → Q .none { s with heap := h' }) :
    BndCall (s.heap.get? b = some (bnd l) ∧ wpAny (model prog w) A (call (.ref b) ([] ++ [x])) Q E s) := by
  have hb := (N _ (List.mem_cons_self ..)).1
  have hl := N _ (List.mem_cons_of_mem _ (List.mem_cons_self ..))
  have hne : b ≠ l := by
    intro e
    subst e
    have h1 := hl.1
    dsimp only at hb h1
    rw [hb] at h1
    exact absurd (congrArg (fun o => o.map Obj.cls) h1) (by simp [bnd, W.listOf])
  refine ⟨⟨hb, call_bnd hb hl.1 hsz fun h' k' hs hg => h h' k' (F.update N (List.mem_cons_of_mem _ (List.mem_cons_self ..)) hs) fun p hp => ?_⟩⟩
  rcases List.mem_cons.mp hp with rfl | hp
  · exact ⟨(hs.2 _ hne).trans hb, (N _ (List.mem_cons_self ..)).2⟩
  · rcases List.mem_cons.mp hp with rfl | hp
    · exact ⟨hg, hl.2⟩
    · have := N p (List.mem_cons_of_mem _ (List.mem_cons_of_mem _ hp))
      exact ⟨(hs.2 _ (off p hp)).trans this.1, this.2⟩
end
end Mine
end
section -- PureI
open PySem PySem.W PyProof.Rows
namespace Mine
/-- a list of texts, as letters -/
def Pcs (cs : Array Value) (base : List (List Nat)) : Prop := ∃ ts : List Str, StrsAre cs.toList ts ∧ ts.map (·.cps.toList) = base
theorem strsAre_snoc {vs : List Value} {ts : List Str} (h : StrsAre vs ts) (z : Str) (t : Tok) : StrsAre (vs ++ [.str z t]) (ts ++ [z]) := by
  induction h with
  | nil => exact .cons z t .nil
  | cons y u _ ih => exact .cons y u ih
theorem Pcs.push {cs : Array Value} {base : List (List Nat)} (h : Pcs cs base) (z : Str) (t : Tok) {l : List Nat} (e : z.cps.toList = l) : Pcs (cs.push (.str z t)) (base ++ [l]) := by
  obtain ⟨ts, h1, h2⟩ := h
  refine ⟨ts ++ [z], ?_, ?_⟩
  · rw [Array.toList_push]; exact strsAre_snoc h1 z t
  · rw [List.map_append, h2, ← e]; rfl
def Chk (y : Str) (m : Nat) (ps : List (List Nat)) (s : Nat) : Prop :=
  ∃ fuel, y.length - s ≤ fuel ∧ chunkA kB 61 m y.cps.toList.length y.cps.toList = (ps ++ (chunkA kB 61 m fuel (y.cps.toList.drop s)).1, (chunkA kB 61 m fuel (y.cps.toList.drop s)).2)
theorem chk_init (y : Str) (m : Nat) : Chk y m [] 0 := ⟨y.cps.toList.length, by show y.length - 0 ≤ _; rw [Array.length_toList]; exact Nat.sub_le _ _, rfl⟩
theorem isEAt_kB (y : Str) {s j : Nat} (h : s + j < y.length) : isEAt kB (y.cps.toList.drop s) j = decide (cAt y (s + j) = 61) := by
  have hl : s + j < y.cps.toList.length := by rw [Array.length_toList]; exact h
  have e : (y.cps.toList.drop s)[j]? = some (cAt y (s + j)) := by
    rw [List.getElem?_drop, List.getElem?_eq_getElem hl]
    unfold cAt
    have h2 : s + j < y.cps.size := h
    simp [Array.getD_eq_getD_getElem?, Array.getElem?_eq_getElem h2]
  unfold isEAt
  rw [e]
  show (kB (cAt y (s + j))).isE = _
  unfold kB
  by_cases hc : cAt y (s + j) = 61
  · rw [if_pos hc, decide_eq_true hc]; rfl
  · rw [if_neg hc, decide_eq_false hc]
    repeat (first | rfl | split)
theorem chk_len (y : Str) (s : Nat) : (y.cps.toList.drop s).length = y.length - s := by rw [List.length_drop, Array.length_toList]; rfl
theorem chk_step {y : Str} {m s d : Nat} {ps : List (List Nat)} {p : List Nat} (C : Chk y m ps s) (hs : s + m < y.length) (hd : 0 < d)
    (e : (if isEAt kB (y.cps.toList.drop s) (m - 3) then ((y.cps.toList.drop s).take (m - 2), m - 3) else if isEAt kB (y.cps.toList.drop s) (m - 2) then ((y.cps.toList.drop s).take (m - 1), m - 2) else ((y.cps.toList.drop s).take (m - 1) ++ [61], m - 1)) = (p, d)) : Chk y m (ps ++ [p]) (s + d) := by
  obtain ⟨fuel, hf, h⟩ := C
  obtain ⟨f, rfl⟩ : ∃ f, fuel = f + 1 := ⟨fuel - 1, by omega⟩
  refine ⟨f, by omega, ?_⟩
  rw [h]
  have hl : ¬ (y.cps.toList.drop s).length ≤ m := by rw [chk_len]; omega
  have e1 : chunkA kB 61 m (f + 1) (y.cps.toList.drop s) = (p :: (chunkA kB 61 m f (y.cps.toList.drop (s + d))).1, (chunkA kB 61 m f (y.cps.toList.drop (s + d))).2) := by
    show (if (y.cps.toList.drop s).length ≤ m then _ else _) = _
    rw [if_neg hl]
    simp only [e, List.drop_drop]
  rw [e1]
  simp
theorem chk_1 {y : Str} {m s : Nat} {ps : List (List Nat)} (C : Chk y m ps s) (hm : 4 ≤ m) (hs : s + m < y.length) (h1 : cAt y (s + m - 3) = 61) : Chk y m (ps ++ [(y.cps.toList.drop s).take (m - 2)]) (s + m - 3) := by
  have := chk_step C hs (d := m - 3) (p := (y.cps.toList.drop s).take (m - 2)) (by omega) (by rw [isEAt_kB y (by omega), show s + (m - 3) = s + m - 3 by omega, decide_eq_true h1, if_pos rfl])
  rwa [show s + (m - 3) = s + m - 3 by omega] at this
theorem chk_2 {y : Str} {m s : Nat} {ps : List (List Nat)} (C : Chk y m ps s) (hm : 4 ≤ m) (hs : s + m < y.length) (h1 : ¬ cAt y (s + m - 3) = 61) (h2 : cAt y (s + m - 2) = 61) : Chk y m (ps ++ [(y.cps.toList.drop s).take (m - 1)]) (s + m - 2) := by
  have := chk_step C hs (d := m - 2) (p := (y.cps.toList.drop s).take (m - 1)) (by omega) (by rw [isEAt_kB y (by omega), isEAt_kB y (by omega), show s + (m - 3) = s + m - 3 by omega, show s + (m - 2) = s + m - 2 by omega, decide_eq_false h1, decide_eq_true h2, if_neg Bool.false_ne_true, if_pos rfl])
  rwa [show s + (m - 2) = s + m - 2 by omega] at this
theorem chk_3 {y : Str} {m s : Nat} {ps : List (List Nat)} (C : Chk y m ps s) (hm : 4 ≤ m) (hs : s + m < y.length) (h1 : ¬ cAt y (s + m - 3) = 61) (h2 : ¬ cAt y (s + m - 2) = 61) : Chk y m (ps ++ [(y.cps.toList.drop s).take (m - 1) ++ [61]]) (s + m - 1) := by
  have := chk_step C hs (d := m - 1) (p := (y.cps.toList.drop s).take (m - 1) ++ [61]) (by omega) (by rw [isEAt_kB y (by omega), isEAt_kB y (by omega), show s + (m - 3) = s + m - 3 by omega, show s + (m - 2) = s + m - 2 by omega, decide_eq_false h1, decide_eq_false h2, if_neg Bool.false_ne_true, if_neg Bool.false_ne_true])
  rwa [show s + (m - 1) = s + m - 1 by omega] at this
theorem chk_out {y : Str} {m s : Nat} {ps : List (List Nat)} (C : Chk y m ps s) (hs : y.length ≤ s + m) : chunkA kB 61 m y.cps.toList.length y.cps.toList = (ps, y.cps.toList.drop s) := by
  obtain ⟨fuel, hf, h⟩ := C
  rw [h]
  have e1 : chunkA kB 61 m fuel (y.cps.toList.drop s) = ([], y.cps.toList.drop s) := by
    cases fuel with
    | zero => rfl
    | succ f =>
      show (if (y.cps.toList.drop s).length ≤ m then _ else _) = _
      rw [if_pos (by rw [chk_len]; omega)]
  rw [e1]
  simp
/-- a slice within the text -/
theorem slice_mid (y : Str) {i j : Int} {a b : Nat} (hi : i = a) (hj : j = b) (h1 : a ≤ b) (h2 : b ≤ y.length) : (Txt.slice y (some i) (some j)).cps.toList = (y.cps.toList.drop a).take (b - a) := by
  subst hi; subst hj
  rw [slice_gen]
  have e1 : clipN (some (a : Int)) 0 y.length = a := by simp only [clipN]; omega
  have e2 : clipN (some (b : Int)) y.length y.length = b := by simp only [clipN]; omega
  rw [e1, e2]
theorem slice_end (y : Str) {i : Int} {a : Nat} (hi : i = a) (h1 : a ≤ y.length) : (Txt.slice y (some i) none).cps.toList = y.cps.toList.drop a := by
  subst hi
  rw [slice_gen]
  have e1 : clipN (some (a : Int)) 0 y.length = a := by simp only [clipN]; omega
  have e2 : clipN none y.length y.length = y.length := rfl
  rw [e1, e2]
  exact List.take_of_length_le (by rw [chk_len]; exact Nat.le_refl _)
theorem slice_last (y : Str) {i : Int} {a : Nat} (hi : i = a) (h1 : a < y.length) : (Txt.slice y (some i) (some (-1))).cps.toList = (y.cps.toList.drop a).dropLast := by
  subst hi
  rw [slice_gen]
  have e1 : clipN (some (a : Int)) 0 y.length = a := by simp only [clipN]; omega
  have e2 : clipN (some (-1)) y.length y.length = y.length - 1 := by simp only [clipN]; omega
  rw [e1, e2, List.dropLast_eq_take, chk_len]
  congr 1
  omega
end Mine
end
section -- PureJ
open PySem PySem.W PyProof.Rows
namespace Mine
theorem cI_of (y : Str) {j : Int} {a : Nat} (h : j = a) : cI y j = cAt y a := by subst h; rfl
theorem kB_isR (c : Nat) : (kB c).isR = (c == 13) := by
  unfold kB
  split
  · subst_vars; rfl
  split
  · subst_vars; rfl
  split
  · subst_vars; rfl
  · rename_i h
    have : (c == 13) = false := by simpa using h
    rw [this]
    repeat' split
    all_goals rfl
theorem kB_isN (c : Nat) : (kB c).isN = (c == 10) := by
  unfold kB
  split
  · subst_vars; rfl
  split
  · subst_vars; rfl
  · rename_i h
    have : (c == 10) = false := by simpa using h
    rw [this]
    repeat' split
    all_goals rfl
theorem kB_isS (c : Nat) : (kB c).isS = sptC c := by
  unfold kB sptC
  split
  · subst_vars; rfl
  split
  · subst_vars; rfl
  split
  · subst_vars; rfl
  split
  · rename_i h
    rcases h with rfl | rfl <;> rfl
  · rename_i h
    have h1 : (c == 32) = false := by simp; omega
    have h2 : (c == 9) = false := by simp; omega
    rw [h1, h2]
    repeat' split
    all_goals rfl
theorem kB_brk (c : Nat) : (kB c).brk = Unicode.isLineBreak c := by
  unfold kB
  split
  · subst_vars; decide +kernel
  split
  · subst_vars; decide +kernel
  split
  · subst_vars; decide +kernel
  split
  · rename_i h
    rcases h with rfl | rfl <;> decide +kernel
  split
  · split
    · rename_i h
      have : Unicode.isLineBreak c = false := by
        rw [brk_list]
        simp
        omega
      rw [this]; rfl
    · split
      · rename_i h; rw [h]; rfl
      · rename_i h
        have : Unicode.isLineBreak c = false := by simpa using h
        rw [this]; rfl
  · split
    · rename_i h; rw [h]; rfl
    · rename_i h
      have : Unicode.isLineBreak c = false := by simpa using h
      rw [this]; rfl
theorem lines_kB (x : Str) : (Txt.lines x).map (·.cps.toList) = linesA kB [] x.cps.toList := lines_of kB x (fun c _ => kB_brk c) (fun c _ => kB_isR c) (fun c _ => kB_isN c)
theorem lastB_N (l : List Nat) : lastIs kB K.isN l = tailIs l 10 := by
  unfold lastIs tailIs
  cases l.getLast? with
  | none => rfl
  | some c => exact kB_isN c
theorem lastB_R (l : List Nat) : lastIs kB K.isR l = tailIs l 13 := by
  unfold lastIs tailIs
  cases l.getLast? with
  | none => rfl
  | some c => exact kB_isR c
theorem spt_small {c : Nat} (h : sptC c = true) : c < 256 := by
  unfold sptC at h
  simp at h
  omega
/-- a line that ends in a blank -/
theorem line_sp {y : Str} {m s : Nat} {ps : List (List Nat)} (C : Chk y m ps s) (hs : y.length ≤ s + m) (h0 : 0 < y.length) (hc : sptC (lastC y) = true) :
    lineA kB 61 10 q1N q2N m y.cps.toList = ps ++ [(y.cps.toList.drop s).dropLast ++ (if (y.length - s) + 2 ≤ m then [61, q1N (lastC y), q2N (lastC y)] else if (y.length - s) + 1 == m then [lastC y, 61, 10] else [61, 10, 61, q1N (lastC y), q2N (lastC y)])] := by
  unfold lineA
  rw [chk_out C hs, lastC_get h0]
  dsimp only
  rw [kB_isS, hc, if_pos rfl, chk_len]
theorem line_no {y : Str} {m s : Nat} {ps : List (List Nat)} (C : Chk y m ps s) (hs : y.length ≤ s + m) (hc : y.length = 0 ∨ sptC (lastC y) = false) :
    lineA kB 61 10 q1N q2N m y.cps.toList = ps ++ [y.cps.toList.drop s] := by
  unfold lineA
  rw [chk_out C hs]
  rcases hc with h | h
  · have : y.cps.toList = [] := List.length_eq_zero_iff.mp (by rw [Array.length_toList]; exact h)
    rw [this]; rfl
  · by_cases h0 : 0 < y.length
    · rw [lastC_get h0]
      dsimp only
      rw [kB_isS, h, if_neg Bool.false_ne_true]
    · have : y.cps.toList = [] := List.length_eq_zero_iff.mp (by rw [Array.length_toList]; show y.length = 0; omega)
      rw [this]; rfl
theorem join_eq : ∀ ts : List Str, (Str.join ⟨#[10]⟩ ts).cps.toList = joinA 10 (ts.map (·.cps.toList))
  | [] => rfl
  | [p] => rfl
  | p :: q :: r => by
    have ih := join_eq (q :: r)
    show (p ++ ⟨#[10]⟩ ++ Str.join ⟨#[10]⟩ (q :: r)).cps.toList = _
    rw [Str.cps_append, Str.cps_append, Array.toList_append, Array.toList_append, List.append_assoc, ih]
    rfl
/-- the whole text -/
theorem body_out {x : List Nat} {bd : List Nat} {m : Nat} {cs : Array Value} {ys : List Str} {b : Bool} (hbd : transA kB 61 q1N q2N x = bd) (hl : ys = Txt.lines ⟨bd.toArray⟩) (h0 : 0 < bd.length)
    (hb : crlfC (lastC ⟨bd.toArray⟩) = b) (hp : Pcs cs (if b = true then ys.flatMap (fun y => lineA kB 61 10 q1N q2N m y.cps.toList) ++ [[]] else ys.flatMap (fun y => lineA kB 61 10 q1N q2N m y.cps.toList))) :
    ∃ ts : List Str, StrsAre cs.toList ts ∧ ∀ sep : Str, sep = ⟨#[10]⟩ → Str.join sep ts = ⟨(bodyA kB 61 10 q1N q2N m x).toArray⟩ := by
  obtain ⟨ts, h1, h2⟩ := hp
  refine ⟨ts, h1, fun sep hsep => ?_⟩
  subst hsep
  refine Str.ext' (Array.toList_inj.mp ?_)
  rw [join_eq, h2]
  have e1 : (lastIs kB K.isN bd || lastIs kB K.isR bd) = b := by
    rw [← hb, crlf_last (x := ⟨bd.toArray⟩) (by show 0 < bd.toArray.size; rw [List.size_toArray]; exact h0), lastB_N, lastB_R]
  have e2 : ys.flatMap (fun y => lineA kB 61 10 q1N q2N m y.cps.toList) = (linesA kB [] bd).flatMap (lineA kB 61 10 q1N q2N m) := by
    have := lines_kB (⟨bd.toArray⟩ : Str)
    rw [← hl] at this
    show _ = (linesA kB [] (⟨bd.toArray⟩ : Str).cps.toList).flatMap _
    rw [← this, List.flatMap_map]
  unfold bodyA
  rw [hbd]
  dsimp only
  rw [e1, e2]
end Mine
end
section -- PureM
open PySem PySem.W PyProof.Rows
namespace Mine
theorem chunk_len (m : Nat) : ∀ (fuel : Nat) (l : List Nat), (∀ p ∈ (chunkA kB 61 m fuel l).1, p.length ≤ l.length + 1) ∧ (chunkA kB 61 m fuel l).2.length ≤ l.length
  | 0, l => ⟨fun p hp => (nomatch hp), Nat.le_refl _⟩
  | fuel + 1, l => by
    show (∀ p ∈ (if l.length ≤ m then (([] : List (List Nat)), l) else _).1, p.length ≤ l.length + 1) ∧ (if l.length ≤ m then (([] : List (List Nat)), l) else _).2.length ≤ l.length
    by_cases h : l.length ≤ m
    · simp only [if_pos h]
      exact ⟨fun p hp => (nomatch hp), Nat.le_refl _⟩
    · simp only [if_neg h]
      generalize e : (if isEAt kB l (m - 3) then (l.take (m - 2), m - 3) else if isEAt kB l (m - 2) then (l.take (m - 1), m - 2) else (l.take (m - 1) ++ [61], m - 1)) = pd
      have hp0 : pd.1.length ≤ l.length + 1 := by
        rw [← e]
        split
        · simp; omega
        · split <;> (simp; omega)
      have ih := chunk_len m fuel (l.drop pd.2)
      have hd : (l.drop pd.2).length ≤ l.length := by simp
      constructor
      · intro p hp
        rcases List.mem_cons.mp hp with rfl | hp
        · exact hp0
        · have := ih.1 p hp; omega
      · exact Nat.le_trans ih.2 hd
theorem line_len (m : Nat) (l : List Nat) : ∀ p ∈ lineA kB 61 10 q1N q2N m l, p.length ≤ l.length + 5 := by
  have h := chunk_len m l.length l
  intro p hp
  unfold lineA at hp
  generalize chunkA kB 61 m l.length l = pz at h hp
  obtain ⟨ps, z⟩ := pz
  dsimp only at h hp
  have key : ∀ q : List Nat, q.length ≤ l.length + 5 → p ∈ ps ++ [q] → p.length ≤ l.length + 5 := by
    intro q hq hp
    rcases List.mem_append.mp hp with hp | hp
    · have := h.1 p hp; omega
    · rw [List.mem_singleton.mp hp]; exact hq
  split at hp
  · split at hp
    · refine key _ ?_ hp
      rw [List.length_append, List.length_dropLast]
      split
      · simp; omega
      · split <;> (simp; omega)
    · exact key _ (by omega) hp
  · exact key _ (by omega) hp
theorem sum_bound (B : Nat) : ∀ ts : List Str, (∀ t ∈ ts, t.length ≤ B) → (ts.map (·.length)).sum ≤ ts.length * B
  | [], _ => by simp
  | t :: r, h => by
    have ih := sum_bound B r fun x hx => h x (List.mem_cons_of_mem _ hx)
    have h1 := h t (List.mem_cons_self ..)
    rw [List.map_cons, List.sum_cons, List.length_cons, Nat.add_mul, Nat.one_mul]
    omega
theorem body_weight {cs : Array Value} {ts : List Str} {base : List (List Nat)} (h1 : StrsAre cs.toList ts) (h2 : ts.map (·.cps.toList) = base) (hb : ∀ p ∈ base, p.length ≤ 21) (hc : cs.size ≤ 1000) : (ts.map (·.length)).sum + ts.length ≤ 1048576 := by
  have hl : ts.length = cs.size := by have := h1.length; rw [Array.length_toList] at this; exact this.symm
  have h3 : ∀ t ∈ ts, t.length ≤ 21 := by
    intro t ht
    have : t.cps.toList ∈ base := by rw [← h2]; exact List.mem_map_of_mem ht
    have := hb _ this
    rw [Array.length_toList] at this
    exact this
  have := sum_bound 21 ts h3
  omega
theorem strs_uniq : ∀ {vs : List Value} {a b : List Str}, StrsAre vs a → StrsAre vs b → a = b
  | _, _, _, .nil, .nil => rfl
  | _, _, _, .cons y t h, .cons _ _ h' => by rw [strs_uniq h h']
/-- the whole text, and its weight -/
theorem body_outW {x : List Nat} {bd : List Nat} {m : Nat} {cs : Array Value} {ys : List Str} (b : Bool) (hbd : transA kB 61 q1N q2N x = bd) (hl : ys = Txt.lines ⟨bd.toArray⟩) (h0 : 0 < bd.length)
    (hb : crlfC (lastC ⟨bd.toArray⟩) = b) (hw : (ys.map (·.length)).sum + ys.length ≤ 16) (hc : cs.size ≤ 1000) (hp : Pcs cs (if b = true then ys.flatMap (fun y => lineA kB 61 10 q1N q2N m y.cps.toList) ++ [[]] else ys.flatMap (fun y => lineA kB 61 10 q1N q2N m y.cps.toList))) :
    ∃ ts : List Str, StrsAre cs.toList ts ∧ (ts.map (·.length)).sum + ts.length ≤ 1048576 ∧ ∀ sep : Str, sep = ⟨#[10]⟩ → Str.join sep ts = ⟨(bodyA kB 61 10 q1N q2N m x).toArray⟩ := by
  have hp' := hp
  obtain ⟨ts, h1, h2⟩ := hp
  refine ⟨ts, h1, body_weight h1 h2 ?_ hc, ?_⟩
  · have key : ∀ p ∈ ys.flatMap (fun y => lineA kB 61 10 q1N q2N m y.cps.toList), p.length ≤ 21 := by
      intro p hp
      obtain ⟨y, hy, hp⟩ := List.mem_flatMap.mp hp
      have h3 : p.length ≤ y.cps.toList.length + 5 := line_len m _ p hp
      obtain ⟨pre, post, e⟩ := List.append_of_mem hy
      have h4 := sum_pre e
      have hyl : y.cps.toList.length = y.length := Array.length_toList
      omega
    intro p hp
    cases b with
    | true =>
      rw [if_pos rfl] at hp
      rcases List.mem_append.mp hp with hp | hp
      · exact key p hp
      · rw [List.mem_singleton.mp hp]; exact Nat.zero_le _
    | false => rw [if_neg Bool.false_ne_true] at hp; exact key p hp
  · obtain ⟨ts', h1', h3⟩ := body_out (x := x) hbd hl h0 hb hp'
    have e : ts' = ts := strs_uniq h1' h1
    rw [← e]
    exact h3
end Mine
end
section -- PureL
open PySem PySem.W PyProof.Rows
namespace Mine
/-- the signs a text of the law may have -/
def alph : List Nat := [61, 52, 49, 97, 68, 10, 32, 9, 95, 13, 11, 12288, 107, 160, 133, 8232, 233, 46, 29, 0]
def fT (l : List Nat) : Tk → Nat
  | .o i => l.getD i 0
  | .kk => 107
  | .nl => 10
  | .eq => 61
  | .sp => 32
  | .q1 i => q1N (l.getD i 0)
  | .q2 i => q2N (l.getD i 0)
  | .s1 => q1N 107
  | .s2 => q2N 107
  | .uq i j => unqN (l.getD i 0) (l.getD j 0)
theorem fT_toks (l : List Nat) : (toksOf l.length).map (fT l) = l := by
  unfold toksOf
  rw [List.map_map]
  apply List.ext_getElem
  · simp
  · intro i h1 h2
    simp [fT, List.getElem_map, List.getD_eq_getElem?_getD, List.getElem?_eq_getElem h2]
theorem kT_o (k : Nat → K) (l : List Nat) (i : Nat) (h : i < l.length) : k (fT l (.o i)) = kT (l.map k) (.o i) := by
  show k (l.getD i 0) = (l.map k).getD i .P
  rw [List.getD_eq_getElem?_getD, List.getD_eq_getElem?_getD, List.getElem?_map, List.getElem?_eq_getElem h]
  rfl
theorem mem_toks {n : Nat} {x : Tk} (h : x ∈ toksOf n) : ∃ i, i < n ∧ x = .o i := by
  obtain ⟨i, hi, rfl⟩ := List.mem_map.mp h
  exact ⟨i, List.mem_range.mp hi, rfl⟩
theorem getD_mem (l : List Nat) (i : Nat) (h : i < l.length) : l.getD i 0 ∈ l := by
  rw [List.getD_eq_getElem?_getD, List.getElem?_eq_getElem h]
  exact List.getElem_mem h
theorem words_mem (ks : List K) : ∀ w : List K, (∀ c ∈ w, c ∈ ks) → w ∈ wordsOf ks w.length
  | [], _ => List.mem_singleton.mpr rfl
  | c :: r, h => by
    have ih := words_mem ks r fun x hx => h x (List.mem_cons_of_mem _ hx)
    show c :: r ∈ (wordsOf ks r.length).flatMap fun w => ks.map fun c => c :: w
    exact List.mem_flatMap.mpr ⟨r, ih, List.mem_map.mpr ⟨c, h c (List.mem_cons_self ..), rfl⟩⟩
theorem same_map {ks : List K} {f : Tk → Nat} (hn : f .nl = 10) : ∀ (d t : List Tk), (∀ b ∈ t, (kT ks b).isN = true → f b = 10) → sameT ks d t = true → d.map f = t.map f
  | [], [], _, _ => rfl
  | [], _ :: _, _, h => by simp [sameT] at h
  | _ :: _, [], _, h => by simp [sameT] at h
  | a :: r, b :: r', hb, h => by
    simp only [sameT, Bool.and_eq_true, Bool.or_eq_true, decide_eq_true_eq] at h
    rw [List.map_cons, List.map_cons, same_map hn r r' (fun x hx => hb x (List.mem_cons_of_mem _ hx)) h.2]
    congr 1
    rcases h.1 with rfl | h1
    · rfl
    · cases a <;> first | (rw [hn]; exact (hb b (List.mem_cons_self ..) h1).symm) | exact absurd h1 Bool.false_ne_true
theorem part_ne {ks : List K} {f : Tk → Nat} (hn : f .nl = 10) (hs : f .sp = 32) (he : f .eq = 61) : ∀ (d t : List Tk), (∀ b ∈ t, (f b = 10 → (kT ks b).isN = true) ∧ (f b = 32 → (kT ks b).isS = true) ∧ (f b = 61 → (kT ks b).isE = true)) → partT ks d t = true → d.map f ≠ t.map f
  | [], [], _, h => by simp [partT] at h
  | [], _ :: _, _, _ => by simp
  | _ :: _, [], _, _ => by simp
  | a :: r, b :: r', hb, h => by
    simp only [partT, Bool.or_eq_true] at h
    intro e
    rw [List.map_cons, List.map_cons, List.cons.injEq] at e
    have hb0 := hb b (List.mem_cons_self ..)
    rcases h with h1 | h2
    · cases a with
      | nl => dsimp only at h1; rw [hb0.1 (e.1.symm.trans hn)] at h1; exact nomatch h1
      | sp => dsimp only at h1; rw [hb0.2.1 (e.1.symm.trans hs)] at h1; exact nomatch h1
      | eq => dsimp only at h1; rw [hb0.2.2 (e.1.symm.trans he)] at h1; exact nomatch h1
      | _ => exact absurd h1 Bool.false_ne_true
    · exact part_ne hn hs he r r' (fun x hx => hb x (List.mem_cons_of_mem _ hx)) h2 e.2
theorem dec_words (ks : List K) (h : ∀ c ∈ ks, c ∈ kDs) (hl : ks.length ≤ 3) : okDec ks = true := by
  have := words_mem kDs ks h
  rcases (show ks.length = 0 ∨ ks.length = 1 ∨ ks.length = 2 ∨ ks.length = 3 by omega) with e | e | e | e
  · rw [e] at this; exact List.all_eq_true.mp dec_all0 _ this
  · rw [e] at this; exact List.all_eq_true.mp dec_all1 _ this
  · rw [e] at this; exact List.all_eq_true.mp dec_all2 _ this
  · rw [e] at this; exact List.all_eq_true.mp dec_all3 _ this
theorem body_words (m : Nat) (hm : m = 4 ∨ m = 5) (ks : List K) (h : ∀ c ∈ ks, c ∈ kBs) (hl : ks.length ≤ 3) : okBody m ks = true := by
  have := words_mem kBs ks h
  rcases hm with rfl | rfl <;> rcases (show ks.length = 0 ∨ ks.length = 1 ∨ ks.length = 2 ∨ ks.length = 3 by omega) with e | e | e | e
  · rw [e] at this; exact List.all_eq_true.mp body4_all0 _ this
  · rw [e] at this; exact List.all_eq_true.mp body4_all1 _ this
  · rw [e] at this; exact List.all_eq_true.mp body4_all2 _ this
  · rw [e] at this; exact List.all_eq_true.mp body4_all3 _ this
  · rw [e] at this; exact List.all_eq_true.mp body5_all0 _ this
  · rw [e] at this; exact List.all_eq_true.mp body5_all1 _ this
  · rw [e] at this; exact List.all_eq_true.mp body5_all2 _ this
  · rw [e] at this; exact List.all_eq_true.mp body5_all3 _ this
theorem alph_D : ∀ c ∈ alph, kD c ∈ kDs ∧ (kD c).ends = endsC c ∧ (kD c).badEnd = (c == 61 || whiteC c) ∧ (hexC c = true → c ∈ figs) ∧ (c = 10 → (kD c).isN = true) ∧ (c = 32 → (kD c).isS = true) ∧ ((kD c).isN = true → c = 10) := by decide +kernel
theorem alph_B : ∀ c ∈ alph, kB c ∈ kBs ∧ (kB c).noWrite = noWrC c ∧ (kB c).isS = (c == 32 || c == 9) ∧ (c = 61 → (kB c).isE = true) := by decide +kernel
theorem figs_unq : ∀ a ∈ figs, ∀ b ∈ figs, unqN a b ≠ 10 := by decide +kernel
theorem isN_D (c : Nat) (h : (kD c).isN = true) : c = 10 := by rw [kD_isN] at h; exact eq_of_beq h
theorem isN_B (c : Nat) (h : (kB c).isN = true) : c = 10 := by rw [kB_isN] at h; exact eq_of_beq h
theorem all_congr' {p q : Nat → Bool} : ∀ l : List Nat, (∀ x ∈ l, p x = q x) → l.all p = l.all q
  | [], _ => rfl
  | c :: r, h => by rw [List.all_cons, List.all_cons, h c (List.mem_cons_self ..), all_congr' r fun x hx => h x (List.mem_cons_of_mem _ hx)]
theorem allL_congr {p q : List Nat → Bool} : ∀ l : List (List Nat), (∀ x ∈ l, p x = q x) → l.all p = l.all q
  | [], _ => rfl
  | c :: r, h => by rw [List.all_cons, List.all_cons, h c (List.mem_cons_self ..), allL_congr r fun x hx => h x (List.mem_cons_of_mem _ hx)]
theorem readL_A (l : List Nat) (ha : ∀ c ∈ l, c ∈ alph) : readL l = readA kD l := by
  unfold readL readA
  rw [all_congr' (p := fun c => !endsC c) (q := fun c => !(kD c).ends) l (fun x hx => by rw [(alph_D x (ha x hx)).2.1]),
    allL_congr (p := fun row => !rowBadR row) (q := fun row => !lastIs kD K.badEnd row) (splitA kD l) (fun row hr => by
      unfold rowBadR lastIs
      cases e : row.getLast? with
      | none => rfl
      | some c => dsimp only; rw [(alph_D c (ha c (splitA_mem l row hr c (List.mem_of_getLast? e)))).2.2.1])]
theorem splitA_congr {k k' : Nat → K} : ∀ l : List Nat, (∀ x ∈ l, (k x).isN = (k' x).isN) → splitA k l = splitA k' l
  | [], _ => rfl
  | c :: r, h => by
    unfold splitA
    rw [h c (List.mem_cons_self ..), splitA_congr r fun x hx => h x (List.mem_cons_of_mem _ hx)]
theorem writL_A (l : List Nat) (m : Nat) (ha : ∀ c ∈ l, c ∈ alph) : writL l m = writA kB l m := by
  unfold writL writA
  rw [splitA_congr (k := kB) (k' := kD) l (fun x _ => by rw [kB_isN, kD_isN]),
    all_congr' (p := fun c => !noWrC c) (q := fun c => !(kB c).noWrite) l (fun x hx => by rw [(alph_B x (ha x hx)).2.1]),
    allL_congr (p := fun row => !rowBadW m row) (q := fun row => decide (row.length ≤ m) && !lastIs kB K.isS row) (splitA kD l) (fun row hr => by
      unfold rowBadW lastIs tailIs
      have e1 : decide (row.length ≤ m) = !decide (m < row.length) := by
        by_cases h : row.length ≤ m
        · rw [decide_eq_true h, decide_eq_false (by omega)]; rfl
        · rw [decide_eq_false h, decide_eq_true (by omega)]; rfl
      rw [e1]
      cases e : row.getLast? with
      | none => simp
      | some c =>
        dsimp only
        rw [(alph_B c (ha c (splitA_mem l row hr c (List.mem_of_getLast? e)))).2.2.1]
        cases decide (m < row.length) <;> cases c == 32 <;> cases c == 9 <;> rfl)]
/-- decode's law -/
theorem dec_law (l : List Nat) (hl : l.length ≤ 3) (ha : ∀ c ∈ l, c ∈ alph) : decide (decA kD 10 unqN l = l) = readL l := by
  have hk : ∀ x ∈ toksOf l.length, kD (fT l x) = kT (l.map kD) x := fun x hx => by
    obtain ⟨i, hi, rfl⟩ := mem_toks hx
    exact kT_o kD l i hi
  have hw := dec_words (l.map kD) (fun c hc => by obtain ⟨x, hx, rfl⟩ := List.mem_map.mp hc; exact (alph_D x (ha x hx)).1) (by rw [List.length_map]; exact hl)
  have e1 : decA kD 10 unqN l = (decA (kT (l.map kD)) .nl uqT (toksOf l.length)).map (fT l) := by
    have := decA_map (f := fT l) (k := kT (l.map kD)) (k' := kD) (nl := Tk.nl) (nl' := 10) (uq := uqT) (uq' := unqN) rfl (toksOf l.length) hk ?_ rfl ?_
    · rw [fT_toks] at this; exact this
    · intro a ha' b hb'
      obtain ⟨i, hi, rfl⟩ := mem_toks ha'
      obtain ⟨j, hj, rfl⟩ := mem_toks hb'
      rfl
    · intro a ha' b hb' hxa hxb
      rw [← hk a ha', isX_kD] at hxa
      rw [← hk b hb', isX_kD] at hxb
      obtain ⟨i, hi, rfl⟩ := mem_toks ha'
      obtain ⟨j, hj, rfl⟩ := mem_toks hb'
      have h1 := (alph_D _ (ha _ (getD_mem l i hi))).2.2.2.1 hxa
      have h2 := (alph_D _ (ha _ (getD_mem l j hj))).2.2.2.1 hxb
      show (kD (unqN (l.getD i 0) (l.getD j 0))).isN = false
      rw [kD_isN]
      have := figs_unq _ h1 _ h2
      simpa using this
  have e2 : readL l = readA (kT (l.map kD)) (toksOf l.length) := by
    rw [readL_A l ha]
    have := readA_map (f := fT l) (k := kT (l.map kD)) (k' := kD) (toksOf l.length) hk
    rw [fT_toks] at this
    exact this
  unfold okDec at hw
  rw [List.length_map] at hw
  dsimp only at hw
  rw [e2, e1]
  have et : l = (toksOf l.length).map (fT l) := (fT_toks l).symm
  cases hr : readA (kT (l.map kD)) (toksOf l.length) with
  | true =>
    rw [hr, if_pos rfl] at hw
    refine decide_eq_true ?_
    have := same_map (f := fT l) rfl _ _ (fun b hb h => isN_D _ (by rw [hk b hb]; exact h)) hw
    exact this.trans et.symm
  | false =>
    rw [hr, if_neg Bool.false_ne_true] at hw
    refine decide_eq_false ?_
    intro e
    refine part_ne (f := fT l) rfl rfl rfl _ _ (fun b hb => ⟨fun h => ?_, fun h => ?_, fun h => ?_⟩) hw (e.trans et)
    · rw [← hk b hb, h]; rfl
    · rw [← hk b hb, h]; rfl
    · rw [← hk b hb, h]; rfl
/-- body_encode's law -/
theorem body_law (l : List Nat) (m : Nat) (hm : m = 4 ∨ m = 5) (hl : l.length ≤ 3) (ha : ∀ c ∈ l, c ∈ alph) : decide (bodyA kB 61 10 q1N q2N m (107 :: 107 :: l) = 107 :: 107 :: l) = writL (107 :: 107 :: l) m := by
  have hmem : ∀ x ∈ Tk.kk :: Tk.kk :: toksOf l.length, x = .kk ∨ ∃ i, i < l.length ∧ x = .o i := by
    intro x hx
    rcases List.mem_cons.mp hx with rfl | hx
    · exact .inl rfl
    · rcases List.mem_cons.mp hx with rfl | hx
      · exact .inl rfl
      · exact .inr (mem_toks hx)
  have hk : ∀ x ∈ Tk.kk :: Tk.kk :: toksOf l.length, kB (fT l x) = kT (l.map kB) x := fun x hx => by
    rcases hmem x hx with rfl | ⟨i, hi, rfl⟩
    · rfl
    · exact kT_o kB l i hi
  have hw := body_words m hm (l.map kB) (fun c hc => by obtain ⟨x, hx, rfl⟩ := List.mem_map.mp hc; exact (alph_B x (ha x hx)).1) (by rw [List.length_map]; exact hl)
  have et : 107 :: 107 :: l = (Tk.kk :: Tk.kk :: toksOf l.length).map (fT l) := by
    rw [List.map_cons, List.map_cons, fT_toks]; rfl
  have hq : ∀ n, n < 16 → kB (hexU n) = .P := by decide +kernel
  have e1 : bodyA kB 61 10 q1N q2N m (107 :: 107 :: l) = (bodyA (kT (l.map kB)) .eq .nl q1T q2T m (Tk.kk :: Tk.kk :: toksOf l.length)).map (fT l) := by
    rw [et]
    refine bodyA_map (f := fT l) (k := kT (l.map kB)) (k' := kB) (eq := Tk.eq) (nl := Tk.nl) (eq' := 61) (nl' := 10) (q1 := q1T) (q2 := q2T) (q1' := q1N) (q2' := q2N) rfl rfl m _ hk ?_ ?_ rfl rfl ?_ ?_
    · intro x hx
      rcases hmem x hx with rfl | ⟨i, hi, rfl⟩ <;> rfl
    · intro x hx
      rcases hmem x hx with rfl | ⟨i, hi, rfl⟩ <;> rfl
    · intro x hx
      have h1 : kB (q1N (fT l x)) = .P := hq _ (Nat.mod_lt _ (by decide))
      rcases hmem x hx with rfl | ⟨i, hi, rfl⟩
      · exact ⟨h1, rfl⟩
      · exact ⟨h1, rfl⟩
    · intro x hx
      have h1 : kB (q2N (fT l x)) = .P := hq _ (Nat.mod_lt _ (by decide))
      rcases hmem x hx with rfl | ⟨i, hi, rfl⟩
      · exact ⟨h1, rfl⟩
      · exact ⟨h1, rfl⟩
  have e2 : writL (107 :: 107 :: l) m = writA (kT (l.map kB)) (Tk.kk :: Tk.kk :: toksOf l.length) m := by
    rw [writL_A _ m (fun c hc => by
      rcases List.mem_cons.mp hc with rfl | hc
      · decide
      · rcases List.mem_cons.mp hc with rfl | hc
        · decide
        · exact ha c hc), et]
    exact writA_map (f := fT l) (k := kT (l.map kB)) (k' := kB) _ m hk
  unfold okBody at hw
  rw [List.length_map] at hw
  dsimp only at hw
  rw [e2, e1]
  cases hr : writA (kT (l.map kB)) (Tk.kk :: Tk.kk :: toksOf l.length) m with
  | true =>
    rw [hr, if_pos rfl] at hw
    refine decide_eq_true ?_
    have := same_map (f := fT l) rfl _ _ (fun b hb h => isN_B _ (by rw [hk b hb]; exact h)) hw
    exact this.trans et.symm
  | false =>
    rw [hr, if_neg Bool.false_ne_true] at hw
    refine decide_eq_false ?_
    intro e
    refine part_ne (f := fT l) rfl rfl rfl _ _ (fun b hb => ⟨fun h => ?_, fun h => ?_, fun h => ?_⟩) hw (e.trans et)
    · rw [← hk b hb, h]; rfl
    · rw [← hk b hb, h]; rfl
    · rw [← hk b hb, h]; rfl
/-- header_decode's law -/
theorem uS_fix : ∀ l : List Nat, l.map uS = l ↔ 95 ∉ l
  | [] => by simp
  | c :: r => by
    rw [List.map_cons, List.cons.injEq, uS_fix r, uS_of, List.mem_cons, not_or]
    by_cases h : c = 95
    · subst h; simp
    · rw [if_neg h]
      exact ⟨fun x => ⟨fun e => h e.symm, x.2⟩, fun x => ⟨rfl, x.2⟩⟩
theorem uS_hex (c : Nat) : hexC (uS c) = hexC c := by
  rw [uS_of]
  by_cases h : c = 95
  · subst h; rfl
  · rw [if_neg h]
theorem uS_E (c : Nat) : ((uS c) == 61) = (c == 61) := by
  rw [uS_of]
  by_cases h : c = 95
  · subst h; rfl
  · rw [if_neg h]
theorem hdr_law (l : List Nat) (hl : l.length ≤ 3) : decide (hdrA kH 32 unqN l = l) = (decide (95 ∉ l) && !escA kD l) := by
  rw [hdr_eq]
  have hs := uS_fix l
  rcases l with _ | ⟨c, _ | ⟨a, _ | ⟨b, _ | ⟨d, r⟩⟩⟩⟩
  · rfl
  · show decide ([c].map uS = [c]) = _
    rw [Bool.eq_iff_iff]
    simp only [hs, escA, decide_eq_true_eq, Bool.not_false, Bool.and_true]
  · show decide ([c, a].map uS = [c, a]) = _
    rw [Bool.eq_iff_iff]
    simp only [hs, escA, decide_eq_true_eq, Bool.not_false, Bool.and_true]
  · show decide ((if (kH (uS c)).isE && (kH (uS a)).isX && (kH (uS b)).isX then [unqN (uS a) (uS b)] else [uS c, uS a, uS b]) = [c, a, b]) = _
    simp only [kH_isE, kH_isX, uS_hex, uS_E]
    have he : escA kD [c, a, b] = ((c == 61) && hexC a && hexC b) := by
      simp only [escA, isE_kD, isX_kD, Bool.or_false]
    rw [he]
    cases hx : ((c == 61) && hexC a && hexC b) with
    | true =>
      rw [if_pos rfl, Bool.not_true, Bool.and_false]
      exact decide_eq_false (by simp)
    | false =>
      rw [if_neg Bool.false_ne_true, Bool.not_false, Bool.and_true]
      have hs' : [uS c, uS a, uS b] = [c, a, b] ↔ 95 ∉ [c, a, b] := hs
      rw [Bool.eq_iff_iff, decide_eq_true_eq, decide_eq_true_eq]
      exact hs'
  · simp only [List.length_cons] at hl; omega
end Mine
end
section -- C10
open PySem PySem.W PyProof.Rows PySem.Calls
namespace Mine
theorem Fr.grown {h₀ h h' : Heap} {L : Addr} {m : Str → Option Value} (F : Fr h₀ L h m) (g : grew h h') : Fr h₀ L h' m := by
  obtain ⟨oL, a1, a2, hL, a3⟩ := F.ns
  exact ⟨⟨oL, a1, a2, g _ _ hL, a3⟩, fun b o' e => g _ _ (F.keep b o' e), F.above⟩
theorem bodyC_len (l : List Nat) : (transA kB 61 q1N q2N l).length ≤ 3 * l.length := by
  rw [transA_mapC]
  induction l with
  | nil => simp
  | cons a r ih => rw [List.flatMap_cons, List.length_append, List.length_cons]; have := mapC_len a; omega
theorem body_pos {x : Str} (h : 0 < x.length) : 0 < (transA kB 61 q1N q2N x.cps.toList).length := by
  rw [transA_mapC]
  have h1 : 0 < x.cps.toList.length := by rw [Array.length_toList]; exact h
  cases e : x.cps.toList with
  | nil => rw [e] at h1; exact absurd h1 (by decide)
  | cons c r =>
    rw [List.flatMap_cons, List.length_append]
    have : 0 < (mapC c).length := by unfold mapC; split <;> simp
    omega
theorem type_translate : typeOf (.builtin "str.translate") = pure (.type "method_descriptor") := by show builtinType _ = _; rw [builtinType_eq_fast]; kernel_rfl
theorem gm_translate {M : Model} {A : Around} {E : Value → Shared → Prop} {s : Shared} {x : Str} {t : Tok} {pl : Sem Bool} {Q : Value × List Value → Shared → Prop} (h : Q (.builtin "str.translate", [.str x t]) s) : wpAny M A (getMethod (.str x t) "translate" pl) Q E s := by
  with_reducible exact GM.of (.str x t) (typeIs_str _ _ _) slot_translate type_translate GM.noRef h
theorem kst_endB {env : Env} {x : Str} {stored : List Str} {m₀ : Str → Option Value} {P : List Int → Array Value × Nat → Prop} {pre : List Int} {b l : Addr} {h₀ : Heap} {m' : Str → Option Value} {own news : List (Addr × Obj)} {adr : List Addr} {s₁ : Shared} {h' : Heap} {tk : Nat} {cs : Array Value} {k : Nat}
    (F : Fr h₀ env.locals h' m') (N : News h₀ env.locals h' ((b, bnd l) :: (l, W.listOf cs k) :: (news ++ own))) (ha : b :: l :: news.map (·.1) = adr) (hr : ∀ z, z ≠ x → (∀ p ∈ ([] : List (Str × Value)), z ≠ p.1) → stored.contains z = false → m' z = m₀ z) (hp : P pre (cs, k)) :
    InvEndN h₀ env.locals (KstS (fun c : Array Value × Nat => (b, bnd l) :: (l, W.listOf c.1 c.2) :: news) (fun _ => []) (fun _ => True) x stored m₀ P pre) own adr s₁ { s₁ with heap := h', toks := tk } :=
  kst_end (cs, k) F N (fun _ hp => List.mem_append_left own hp) (fun _ hp => List.mem_append_right ((b, bnd l) :: (l, W.listOf cs k) :: news) hp) ha trivial (fun p hp => nomatch hp) hr hp
theorem txt_join (sep : Str) (ts : List Str) : Txt.join sep ts = Str.join sep ts := StrLaws.glued_eq_join sep ts
theorem join_body {prog : Program} {w : World} {A : Around} {E : Value → Shared → Prop} {s : Shared} {sep : Str} {t : Tok} {D : Addr} {Q : Value → Shared → Prop} {x : List Nat} {bd : List Nat} {m : Nat} {cs : Array Value} {ys : List Str} (b : Bool) (hbd : transA kB 61 q1N q2N x = bd) (hl : ys = Txt.lines ⟨bd.toArray⟩) (h0 : 0 < bd.length)
    (hb : crlfC (lastC ⟨bd.toArray⟩) = b) (hw : (ys.map (·.length)).sum + ys.length ≤ 16) (hs : sep = ⟨#[10]⟩) (hD : s.heap.IsList D cs) (hc : cs.size ≤ 1000) (hp : Pcs cs (if b = true then ys.flatMap (fun y => lineA kB 61 10 q1N q2N m y.cps.toList) ++ [[]] else ys.flatMap (fun y => lineA kB 61 10 q1N q2N m y.cps.toList)))
    (h : ∀ t' k, Q (.str ⟨(bodyA kB 61 10 q1N q2N m x).toArray⟩ t') { s with toks := k }) : wpAny (model prog w) A (call (.builtin "str.join") [.str sep t, .ref D]) Q E s := by
  obtain ⟨ts, q1, q2, q3⟩ := body_outW b hbd hl h0 hb hw hc hp
  refine join_listW hD q1 (by rw [hs]; decide) q2 fun t' k => ?_
  have e : Txt.join sep ts = ⟨(bodyA kB 61 10 q1N q2N m x).toArray⟩ := (txt_join sep ts).trans (q3 sep hs)
  rw [e]
  exact h t' k
local macro_rules | `(tactic| walk_at "exec For Name Call cons nil") => `(tactic| (k_here; (with_reducible rename Fr _ _ _ _ => lF'); (with_unfolding_all refine' For_invVF lF' ?k1 ?k2 ?_; (case k1 => exact rfl); (case k2 => exact rfl); k_whole)))
local macro_rules | `(tactic| walk_at "pyIter ref") => `(tactic| (k_here; refine hold ?_))
local macro_rules | `(tactic| walk_at "exec While Compare cons nil") => `(tactic| (k_here; refine hold ?_))
local macro_rules | `(tactic| walk_at "call builtin:str.translate") => `(tactic| (k_here; refine hold ?_))
local macro_rules | `(tactic| walk_at "call builtin:str.join") => `(tactic| (k_here; refine hold ?_))
local macro_rules | `(tactic| walk_at "KswEnd") => `(tactic| (k_here; refine hold ?_))
local macro_rules | `(tactic| walk_at "InvEndN") => `(tactic| (k_here; refine hold ?_))
local macro_rules | `(tactic| walk_at "call builtin:str.splitlines") => `(tactic| (k_here; refine splitlines_K (by k_asm) (by k_asm) (by omega) ?_; intro D' l' h' k' e' a' F' N' l1; (try k_sweep)))
local macro_rules | `(tactic| walk_at "call builtin:len") => `(tactic| (refine len_txt (by omega) ?_; intro _ _))
local macro_rules | `(tactic| walk_at "subscriptTail Name UnaryOp str int") => `(tactic| (refine sub_last (by omega) ?_; intro _ _))
local macro_rules | `(tactic| walk_at "subscriptTail Name Name str int") => `(tactic| (refine sub_cI (by omega) (by omega) (by omega) ?_; intro _ _))
local macro_rules | `(tactic| walk_at "subscriptTail Name BinOp str int") => `(tactic| (refine sub_cI (by omega) (by omega) (by omega) ?_; intro _ _))
local macro_rules | `(tactic| walk_at "compareOp Eq str str") => `(tactic| (refine eq_one (d := 61) (by decide +kernel) ?_))
local macro_rules | `(tactic| walk_at "compareOp In str str") => `(tactic| (first | refine in_one _ (lists_spt (by decide +kernel)) ?_ | refine in_one _ (lists_crlf (by decide +kernel)) ?_))
local macro_rules | `(tactic| walk_at "callWith ref") => `(tactic| (k_here; k_dflt ((with_reducible rename News _ _ _ _ => lN'); refine callWith_led lN' (by first | exact List.Mem.head _ | exact List.mem_append_left _ (List.Mem.head _)) ?_)))
local macro_rules | `(tactic| walk_at "call ref") => `(tactic| (k_here; k_dflt (refine' con_use (con_quote _ _ (lastC _) _ rfl ?kx) ?k1 ?k2 ?k3 ?k4 ?k5 ?kK ?kd ?ku trivial ?_; (case kx => exact spt_small (by with_reducible assumption)); (case k1 => k_asm); (case k2 => k_asm); (case k3 => k_asm); (case k4 => k_asm); (case k5 => k_asm); (case kK => first | exact rfl | assumption); (case kd => ktr_room); (case ku => ktr_units)); intro t9 h9 tk9 F9 N9; (try dsimp only); (try k_fold)))
local macro_rules | `(tactic| walk_at "BndCall") => `(tactic| (k_here; (with_reducible rename Fr _ _ _ _ => lF'); (with_reducible rename News _ _ _ _ => lN'); (refine bnd_call lF' lN' (by with_reducible assumption) (by (try simp only [Array.size_push]); omega) ?_); intro h9 k9 F9 N9; clear lF' lN'; (try dsimp only); (try k_fold)))
set_option maxRecDepth 100000 in
set_option maxHeartbeats 4000000 in
theorem con_body (w : World) (x : Str) (ml : Nat) (t tm : Tok) (hx0 : 2 ≤ x.length) (hx : x.length ≤ 5) (hc : ∀ c ∈ x.cps.toList, c < 2 ^ 32) (hm : ml = 4 ∨ ml = 5) : Con w 79 3 24 [.str x t, .int (ml : Int) tm] True (fun t => .str ⟨(bodyA kB 61 10 q1N q2N ml x.cps.toList).toArray⟩ t) := by
  unfold Con
  k_fill
  w_on
  intro loose mean mg mb dp un gd cn cs ac ccd cl outer A₀ base h₀ L m news s Q E B F X N T hk hd hu hP hret
  refine wpAny_call ?_
  k_dflt (refine' code_def ?k1 ?k2 ?k3 ?k4 ?k5 ?kA ?kF ?kK ?k6 ?k7 ?k8 ?k9 ?kB ?_ ?c2 ?c3 ?c4 ?c5; (case kA => exact rfl); (case kF => exact rfl); (case kK => assumption); (case k1 => k_asm); (case k2 => k_asm); (case k3 => k_asm); (case k4 => k_asm); (case k5 => k_asm); (case k6 => k_is); (case k7 => k_is); (case k8 => ktr_room); (case k9 => exact binds_K (by k_in) rfl (by k_is) rfl rfl rfl); (case c5 => decide); (case kB => exact locs rfl); (case c2 => exact rfl); (case c3 => exact rfl); (case c4 => exact rfl); k_whole; intro g' L' h' FG' F' N' B' X' T'; (try dsimp only); (try k_lift B'); (try k_fold))
  w_strict k_steps
  all_goals first | (exfalso; omega) | skip
  refine gm_translate ?_
  w_strict k_steps
  refine Hold.mk ?_
  with_reducible rename (Mine.hd.heap_39 w.params).In _ => lX'
  with_reducible rename Fr _ _ _ _ => lF'
  with_reducible rename News _ _ _ _ => lN'
  refine trans_call rfl ((tab_of w _ rfl lX').grew lF'.keep) (by omega) (by omega) hc ?_
  intro h6 t6 k6 g6
  replace lF' := Fr.grown lF' g6
  replace lN' := lN'.grown g6
  have hb0 := bodyC_len x.cps.toList
  have hb1 : x.cps.toList.length = x.length := Array.length_toList
  generalize hbd : transA kB 61 q1N q2N x.cps.toList = bd at hb0 ⊢
  have hbl : (⟨bd.toArray⟩ : Str).length ≤ 15 := by show bd.toArray.size ≤ 15; rw [List.size_toArray]; omega
  w_strict k_steps
  with_reducible rename Fr _ _ _ _ => lF'
  with_reducible rename News _ _ _ ((_, W.listOf _ _) :: _) => lN'
  with_reducible rename Addr => lA
  with_reducible rename (∀ p ∈ news, p.1 < _) => ltA
  refine get_appendN lF' lN' rfl ?_
  intro b7 h7 k7 F7 N7 lt7
  clear lF' lN'
  w_strict k_steps
  refine Hold.mk ?_
  with_reducible rename Fr _ _ _ _ => lF'
  with_reducible rename News _ _ _ _ => lN'
  with_reducible rename StrsAre _ _ => lS'
  with_reducible rename (∀ p ∈ (b7, bnd _) :: _, p.1 < _) => lLt
  with_reducible rename List.map _ _ = Txt.lines _ => lE'
  have hm4 : 4 ≤ ml := by omega
  have hm5 : ml ≤ 5 := by omega
  with_unfolding_all refine' loop_strsG (σ := Array Value × Nat) (fun c => (b7, bnd lA) :: (lA, W.listOf c.1 c.2) :: news) (fun _ => []) [Str.ofString "start", Str.ofString "laststart", Str.ofString "stop", Str.ofString "room", Str.ofString "q"] (fun pre c => Pcs c.1 (pre.flatMap (fun y => lineA kB 61 10 q1N q2N ml y.cps.toList)) ∧ c.1.size ≤ (pre.map (·.length)).sum + pre.length) (#[], 0) (by rfl) (List.Mem.head _) lS' lF' lN' (fun p hp => List.Mem.tail _ hp) (fun p hp => Nat.ne_of_lt (lLt p hp)) ?hk ?hj ?_ ?_
  case hk => exact fun p hp => nomatch hp
  case hj => exact ⟨⟨[], .nil, rfl⟩, Nat.zero_le _⟩
  · intro pre y post ti c u2 h2 tk2 own he hoff hJ ha F2 N2
    obtain ⟨cs, cn⟩ := c
    obtain ⟨hJ1, hJ2⟩ := hJ
    dsimp only [kstB] at F2
    dsimp only at hJ1 hJ2
    have N2' : News g' L' h2 ((b7, bnd lA) :: (lA, W.listOf cs cn) :: (news ++ own)) := N2
    clear N2 lF' lN'
    have hW := StrLaws.lines_weight (⟨bd.toArray⟩ : Str)
    rw [← lE'] at hW
    have hs1 := sum_pre he
    have hy : y.length ≤ 16 := by omega
    have hcs : cs.size ≤ 32 := by omega
    have offA : ∀ p ∈ news ++ own, p.1 ≠ lA := by
      intro p hp
      rcases List.mem_append.mp hp with hp | hp
      · exact Nat.ne_of_lt (ltA p hp)
      · exact hoff p hp lA (by simp)
    (try k_fold)
    w_strict k_steps
    refine Hold.mk ?_
    with_reducible rename Fr _ _ _ _ => lF'
    with_reducible rename News _ _ _ _ => lN'
    with_unfolding_all refine' ksw_while (σ := (Int × PySem.Tok) × (Array Value × Nat)) (fun c => (b7, bnd lA) :: (lA, W.listOf c.2.1 c.2.2) :: (news ++ own)) (fun c => [(Str.ofString "start", Value.int c.1.1 c.1.2)]) (fun _ => True) [Str.ofString "stop"] (fun c => ∃ (i : Nat) (ps : List (List Nat)), c.1.1 = i ∧ Pcs c.2.1 (pre.flatMap (fun y => lineA kB 61 10 q1N q2N ml y.cps.toList) ++ ps) ∧ Chk y ml ps i ∧ (i < y.length ∨ i = 0) ∧ c.2.1.size ≤ cs.size + i) (fun c => y.length - c.1.1.toNat) ((0, _), (cs, cn)) lF' lN' trivial ?hk ?hp ?_
    case hk => kst_all
    case hp => exact ⟨0, [], rfl, by rw [List.append_nil]; exact hJ1, chk_init y ml, .inr rfl, Nat.le_add_right _ _⟩
    intro c u3 h3 tk3 _ hP F3 N3
    obtain ⟨⟨j, t₁⟩, ⟨cs1, cn1⟩⟩ := c
    obtain ⟨i, ps, hij, hP1, hP2, hP3, hP4⟩ := hP
    dsimp only at hij hP1 hP2 hP3 hP4
    subst hij
    clear lF' lN'
    dsimp only [kstB] at F3
    have hi : i ≤ 16 := by omega
    (try k_fold)
    w_strict k_steps
    · have e1 : cI y (↑i + (↑ml - 1) - 2) = cAt y (i + ml - 3) := cI_of y (by omega)
      have e2 := slice_mid y (i := (i : Int)) (j := ↑i + (↑ml - 1) - 1) (a := i) (b := i + ml - 2) rfl (by omega) (by omega) (by omega)
      rw [show i + ml - 2 - i = ml - 2 by omega] at e2
      refine' Hold.mk (ksw_end ((↑i + (↑ml - 1) - 2, _), (cs1.push (Value.str (Txt.slice y (some ↑i) (some (↑i + (↑ml - 1) - 1))) _), _)) (by k_asm) (by k_asm) (fun p hp => hp) trivial ?q1k1 (by ksw_same) ⟨i + ml - 3, ps ++ [(y.cps.toList.drop i).take (ml - 2)], ?q1k2, ?q1k3, ?q1k4, ?q1k5, ?q1k6⟩ ?q1k7)
      case q1k1 => kst_all
      case q1k2 => show (i : Int) + (↑ml - 1) - 2 = _; omega
      case q1k3 => rw [← List.append_assoc]; exact hP1.push _ _ e2
      case q1k4 => exact chk_1 hP2 hm4 (by omega) (by rw [← e1]; with_reducible assumption)
      case q1k5 => exact .inl (by omega)
      case q1k6 => show (Array.push _ _).size ≤ _; rw [Array.size_push]; omega
      case q1k7 => show y.length - ((i : Int) + (↑ml - 1) - 2).toNat < y.length - (i : Int).toNat; omega
    · have e1 : cI y (↑i + (↑ml - 1) - 2) = cAt y (i + ml - 3) := cI_of y (by omega)
      have e3 : cI y (↑i + (↑ml - 1) - 1) = cAt y (i + ml - 2) := cI_of y (by omega)
      have e2 := slice_mid y (i := (i : Int)) (j := ↑i + (↑ml - 1)) (a := i) (b := i + ml - 1) rfl (by omega) (by omega) (by omega)
      rw [show i + ml - 1 - i = ml - 1 by omega] at e2
      refine' Hold.mk (ksw_end ((↑i + (↑ml - 1) - 1, _), (cs1.push (Value.str (Txt.slice y (some ↑i) (some (↑i + (↑ml - 1)))) _), _)) (by k_asm) (by k_asm) (fun p hp => hp) trivial ?q2k1 (by ksw_same) ⟨i + ml - 2, ps ++ [(y.cps.toList.drop i).take (ml - 1)], ?q2k2, ?q2k3, ?q2k4, ?q2k5, ?q2k6⟩ ?q2k7)
      case q2k1 => kst_all
      case q2k2 => show (i : Int) + (↑ml - 1) - 1 = _; omega
      case q2k3 => rw [← List.append_assoc]; exact hP1.push _ _ e2
      case q2k4 => exact chk_2 hP2 hm4 (by omega) (by rw [← e1]; with_reducible assumption) (by rw [← e3]; with_reducible assumption)
      case q2k5 => exact .inl (by omega)
      case q2k6 => show (Array.push _ _).size ≤ _; rw [Array.size_push]; omega
      case q2k7 => show y.length - ((i : Int) + (↑ml - 1) - 1).toNat < y.length - (i : Int).toNat; omega
    · have e1 : cI y (↑i + (↑ml - 1) - 2) = cAt y (i + ml - 3) := cI_of y (by omega)
      have e3 : cI y (↑i + (↑ml - 1) - 1) = cAt y (i + ml - 2) := cI_of y (by omega)
      have e2 := slice_mid y (i := (i : Int)) (j := ↑i + (↑ml - 1)) (a := i) (b := i + ml - 1) rfl (by omega) (by omega) (by omega)
      rw [show i + ml - 1 - i = ml - 1 by omega] at e2
      have e4 : (Txt.slice y (some ↑i) (some (↑i + (↑ml - 1))) ++ Str.ofString "=").cps.toList = (y.cps.toList.drop i).take (ml - 1) ++ [61] := by
        rw [show Str.ofString "=" = ⟨#[61]⟩ by decide +kernel, cat1, e2]
      refine' Hold.mk (ksw_end ((↑i + (↑ml - 1), _), (cs1.push (Value.str (Txt.slice y (some ↑i) (some (↑i + (↑ml - 1))) ++ Str.ofString "=") _), _)) (by k_asm) (by k_asm) (fun p hp => hp) trivial ?q3k1 (by ksw_same) ⟨i + ml - 1, ps ++ [(y.cps.toList.drop i).take (ml - 1) ++ [61]], ?q3k2, ?q3k3, ?q3k4, ?q3k5, ?q3k6⟩ ?q3k7)
      case q3k1 => kst_all
      case q3k2 => show (i : Int) + (↑ml - 1) = _; omega
      case q3k3 => rw [← List.append_assoc]; exact hP1.push _ _ e4
      case q3k4 => exact chk_3 hP2 hm4 (by omega) (by rw [← e1]; with_reducible assumption) (by rw [← e3]; with_reducible assumption)
      case q3k5 => exact .inl (by omega)
      case q3k6 => show (Array.push _ _).size ≤ _; rw [Array.size_push]; omega
      case q3k7 => show y.length - ((i : Int) + (↑ml - 1)).toNat < y.length - (i : Int).toNat; omega
    · have e2 := slice_last y (i := (i : Int)) (a := i) rfl (by omega)
      with_reducible rename Fr _ _ _ _ => lF'
      with_reducible rename News _ _ _ _ => lN'
      have e3 := line_sp hP2 (by omega) (by omega) (by with_reducible assumption)
      rw [if_pos (by omega)] at e3
      refine' Hold.mk (kst_endB lF' lN' rfl (by kst_same) ⟨?q4k1, ?q4k2⟩)
      case q4k1 => rw [List.flatMap_append, List.flatMap_singleton, e3, ← List.append_assoc]; refine hP1.push _ _ ?_; rw [Str.cps_append, Array.toList_append, e2]
      case q4k2 => rw [sum_snoc]; show (Array.push _ _).size ≤ _; rw [Array.size_push]; omega
    · have e2 := slice_last y (i := (i : Int)) (a := i) rfl (by omega)
      with_reducible rename Fr _ _ _ _ => lF'
      with_reducible rename News _ _ _ _ => lN'
      have e3 := line_sp hP2 (by omega) (by omega) (by with_reducible assumption)
      rw [if_neg (by omega), if_pos (by simp; omega)] at e3
      refine' Hold.mk (kst_endB lF' lN' rfl (by kst_same) ⟨?q5k1, ?q5k2⟩)
      case q5k1 => rw [List.flatMap_append, List.flatMap_singleton, e3, ← List.append_assoc]; refine hP1.push _ _ ?_; rw [Str.cps_append, Array.toList_append, e2, show Str.ofString "=\n" = ⟨#[61, 10]⟩ by decide +kernel, Str.cps_append, Array.toList_append]; rfl
      case q5k2 => rw [sum_snoc]; show (Array.push _ _).size ≤ _; rw [Array.size_push]; omega
    · have e2 := slice_last y (i := (i : Int)) (a := i) rfl (by omega)
      with_reducible rename Fr _ _ _ _ => lF'
      with_reducible rename News _ _ _ _ => lN'
      have e3 := line_sp hP2 (by omega) (by omega) (by with_reducible assumption)
      rw [if_neg (by omega), if_neg (by simp; omega)] at e3
      refine' Hold.mk (kst_endB lF' lN' rfl (by kst_same) ⟨?q6k1, ?q6k2⟩)
      case q6k1 => rw [List.flatMap_append, List.flatMap_singleton, e3, ← List.append_assoc]; refine hP1.push _ _ ?_; rw [Str.cps_append, Array.toList_append, e2, show Str.ofString "=\n" = ⟨#[61, 10]⟩ by decide +kernel, Str.cps_append, Array.toList_append]; rfl
      case q6k2 => rw [sum_snoc]; show (Array.push _ _).size ≤ _; rw [Array.size_push]; omega
    · have e2 := slice_end y (i := (i : Int)) (a := i) rfl (by omega)
      with_reducible rename Fr _ _ _ _ => lF'
      with_reducible rename News _ _ _ _ => lN'
      have e3 := line_no hP2 (by omega) (.inr (by with_reducible assumption))
      refine' Hold.mk (kst_endB lF' lN' rfl (by kst_same) ⟨?q7k1, ?q7k2⟩)
      case q7k1 => rw [List.flatMap_append, List.flatMap_singleton, e3, ← List.append_assoc]; exact hP1.push _ _ e2
      case q7k2 => rw [sum_snoc]; show (Array.push _ _).size ≤ _; rw [Array.size_push]; omega
    · have e2 := slice_end y (i := (i : Int)) (a := i) rfl (by omega)
      with_reducible rename Fr _ _ _ _ => lF'
      with_reducible rename News _ _ _ _ => lN'
      have e3 := line_no hP2 (by omega) (.inl (by omega))
      refine' Hold.mk (kst_endB lF' lN' rfl (by kst_same) ⟨?q8k1, ?q8k2⟩)
      case q8k1 => rw [List.flatMap_append, List.flatMap_singleton, e3, ← List.append_assoc]; exact hP1.push _ _ e2
      case q8k2 => rw [sum_snoc]; show (Array.push _ _).size ≤ _; rw [Array.size_push]; omega
  · intro c u2 h2 tk2 hJ F2 N2
    obtain ⟨cs, cn⟩ := c
    obtain ⟨hJ1, hJ2⟩ := hJ
    dsimp only [kstB] at F2
    dsimp only at hJ1 hJ2
    clear lF' lN'
    have hbp : 0 < bd.length := by rw [← hbd]; exact body_pos (by omega)
    have hb2 : 0 < (⟨bd.toArray⟩ : Str).length := by show 0 < bd.toArray.size; rw [List.size_toArray]; exact hbp
    have hb3 : (⟨bd.toArray⟩ : Str).length ≤ 15 := hbl
    have offA : ∀ p ∈ news, p.1 ≠ lA := fun p hp => Nat.ne_of_lt (ltA p hp)
    have hW := StrLaws.lines_weight (⟨bd.toArray⟩ : Str)
    rw [← lE'] at hW
    have hcs : cs.size ≤ 64 := by omega
    (try k_fold)
    w_strict k_steps
    · refine Hold.mk ?_
      with_reducible rename Fr _ _ _ _ => lF'
      with_reducible rename News _ _ _ _ => lN'
      refine' join_body (m := ml) true hbd lE' hbp (by with_reducible assumption) (by omega) (by decide +kernel) (News.isList lN' (List.Mem.tail _ (List.Mem.head _))) ?hc ?hp ?_
      case hc => show (Array.push _ _).size ≤ 1000; rw [Array.size_push]; (try dsimp only); omega
      case hp => rw [if_pos rfl]; exact hJ1.push (Str.ofString "") _ (by decide +kernel)
      intro t9 k9
      w_strict k_steps
      exact hret _ _ _ (by assumption) (kst_newsOf (l := (b7, bnd lA) :: (lA, W.listOf _ _) :: news) (by assumption) (fun p hp => List.Mem.tail _ (List.Mem.tail _ hp)))
    · refine Hold.mk ?_
      with_reducible rename Fr _ _ _ _ => lF'
      with_reducible rename News _ _ _ _ => lN'
      refine' join_body (m := ml) false hbd lE' hbp (by with_reducible assumption) (by omega) (by decide +kernel) (News.isList lN' (List.Mem.tail _ (List.Mem.head _))) ?hc ?hp ?_
      case hc => show Array.size cs ≤ 1000; omega
      case hp => rw [if_neg Bool.false_ne_true]; exact hJ1
      intro t9 k9
      w_strict k_steps
      exact hret _ _ _ (by assumption) (kst_newsOf (l := (b7, bnd lA) :: (lA, W.listOf _ _) :: news) (by assumption) (fun p hp => List.Mem.tail _ (List.Mem.tail _ hp)))
end Mine
end
section -- PureN
open PySem PySem.W PyProof.Rows
namespace Mine
/-- the texts after i rounds -/
def lev (sg : List Nat) : Nat → List (List Nat)
  | 0 => [[]]
  | i + 1 => lev sg i ++ ((lev sg i).filter fun t => decide (t.length = i)).flatMap fun t => sg.map fun c => t ++ [c]
theorem lev_mem (sg : List Nat) : ∀ (i : Nat) (t : List Nat), t ∈ lev sg i → t.length ≤ i ∧ ∀ c ∈ t, c ∈ sg
  | 0, t, h => by
    rw [List.mem_singleton.mp h]
    exact ⟨Nat.le_refl _, fun c hc => nomatch hc⟩
  | i + 1, t, h => by
    rcases List.mem_append.mp h with h | h
    · have := lev_mem sg i t h
      exact ⟨by omega, this.2⟩
    · obtain ⟨y, hy, h⟩ := List.mem_flatMap.mp h
      obtain ⟨hy1, hy2⟩ := List.mem_filter.mp hy
      obtain ⟨c, hc, rfl⟩ := List.mem_map.mp h
      have ih := lev_mem sg i y hy1
      refine ⟨by simp; omega, fun z hz => ?_⟩
      rcases List.mem_append.mp hz with hz | hz
      · exact ih.2 z hz
      · rw [List.mem_singleton.mp hz]; exact hc
theorem lev_size (a b c d : Nat) : (lev [a, b, c, d] 3).length = 85 := by rfl
theorem lev_at0 (a b c d : Nat) : (lev [a, b, c, d] 3)[0]? = some [] := by rfl
theorem lev_at1 (a b c d : Nat) : (lev [a, b, c, d] 3)[1]? = some [a] := by rfl
theorem lev_at26 (a b c d : Nat) : (lev [a, b, c, d] 3)[26]? = some [a, b, b] := by rfl
theorem lev_bound (sg : List Nat) (h : sg.length = 4) : ∀ i, i ≤ 3 → (lev sg i).length ≤ 85 := by
  match sg, h with
  | [a, b, c, d], _ =>
    intro i hi
    rcases (show i = 0 ∨ i = 1 ∨ i = 2 ∨ i = 3 by omega) with rfl | rfl | rfl | rfl
    · exact Nat.le_of_ble_eq_true rfl
    · exact Nat.le_of_ble_eq_true rfl
    · exact Nat.le_of_ble_eq_true rfl
    · exact Nat.le_of_ble_eq_true rfl
end Mine
end
section -- BaseF
open PySem PySem.W PyProof.Rows PySem.Calls
namespace Mine
/-- the end of a turn whose ledger may change -/
structure FreeEnd {σ : Type} (h₀ : Heap) (L : Addr) (Led : σ → List (Addr × Obj)) (ps : σ → List (Str × Value)) (x : Str) (stored : List Str) (m₀ : Str → Option Value) (own : List (Addr × Obj)) (J : σ → Prop) (s₁ s₂ : Shared) : Prop where
  ex : ∃ (c : σ) (h' : Heap) (tk : Nat) (m' : Str → Option Value) (news' : List (Addr × Obj)), s₂ = { s₁ with heap := h', toks := tk } ∧ Fr h₀ L h' m' ∧ News h₀ L h' news' ∧ (∀ p ∈ Led c, p ∈ news') ∧ (∀ p ∈ own, p ∈ news') ∧ (∀ p ∈ Led c, ∀ q ∈ own, p.1 ≠ q.1) ∧
    (∀ p ∈ ps c, m' p.1 = some p.2) ∧ (∀ z, z ≠ x → (∀ p ∈ ps c, z ≠ p.1) → stored.contains z = false → m' z = m₀ z) ∧ J c
section
variable {prog : Program} {w : World} {A : Around} {E : Value → Shared → Prop} {s : Shared} {env : Env} {h₀ : Heap} {x : Str} {body : List Stmt} {Q : Flow → Shared → Prop}
theorem loop_rangeF {σ : Type} {r : Addr} {b₀ : Int} {t₀ u₀ v₀ : Tok} {n : Nat} {m₀ : Str → Option Value} (Led : σ → List (Addr × Obj)) (ps : σ → List (Str × Value)) (stored : List Str) (J : Nat → σ → Prop) (c₀ : σ)
    (hh : A.handled = none) (hr : IsRange s.heap r 0 b₀ 1 t₀ u₀ v₀) (hsmall : Builtin.Range.small 0 b₀ 1 = true) (hn : Builtin.Range.rangeSize 0 b₀ 1 = (n : Int)) (F : Fr h₀ env.locals s.heap m₀) (N : News h₀ env.locals s.heap (Led c₀)) (hk : ∀ p ∈ ps c₀, m₀ p.1 = some p.2) (hj : J 0 c₀)
    (turn : ∀ i t (c : σ) (u : Str → Option Value) h tk own, i < n → (∀ p ∈ Led c, ∀ q ∈ own, p.1 ≠ q.1) → J i c → Fr h₀ env.locals h (fun y => if y = x then some (.int (i : Nat) t) else kstB (fun z => if stored.contains z then u z else m₀ z) (ps c) y) → News h₀ env.locals h (Led c ++ own) →
      wpAny (model prog w) A (execs body env) (fun f s₂ => match f with | .ret v => Q (.ret v) s₂ | .brk => Q .next s₂ | .next => FreeEnd h₀ env.locals Led ps x stored m₀ own (J (i + 1)) { s with heap := h, toks := tk } s₂ | .cont => FreeEnd h₀ env.locals Led ps x stored m₀ own (J (i + 1)) { s with heap := h, toks := tk } s₂) E { s with heap := h, toks := tk })
    (done : ∀ (c : σ) (u : Str → Option Value) h tk, J n c → Fr h₀ env.locals h (fun y => if y = x then u y else kstB (fun z => if stored.contains z then u z else m₀ z) (ps c) y) → News h₀ env.locals h (Led c) → Q .next { s with heap := h, toks := tk }) :
    wpAny (model prog w) A (pyIter (.ref r)) (fun it s₂ => LoopAtV prog w A h₀ env x body Q E it s₂) E s := by
  refine wpAny_pyIter_range hr hsmall ?_
  have W : Walks prog w A s.heap.objs.size [s.heap.objs.size] [s.heap.objs.size] n (fun i v => i < n ∧ ∃ t, v = .int (0 + (i : Nat) * 1) t)
      (fun i h => IsRangeIter h s.heap.objs.size (0 + (i : Nat) * 1) ((n : Int) - (i : Nat)) 1) := (Walks.range hh _ 0 1 n).bound
  refine ⟨_, _, _, _, _, _, m₀, Led c₀, fun i m nx => ∃ c : σ, nx = Led c ∧ (∀ p ∈ ps c, m p.1 = some p.2) ∧ (∀ z, z ≠ x → (∀ p ∈ ps c, z ≠ p.1) → stored.contains z = false → m z = m₀ z) ∧ J i c, rfl, W, ?_, ?_, ?_, (by show IsRangeIter _ _ _ _ _; rw [hn]; simpa using Heap.get?_push_size _ rfl), F.push _, (fun p hp => ⟨Heap.get?_push_of_some _ (N p hp).1, (N p hp).2⟩), ⟨c₀, rfl, hk, fun _ _ _ _ => rfl, hj⟩, ?_, ?_⟩
  · intro hm
    exact absurd F.ns.lt ((List.mem_singleton.mp hm) ▸ Nat.lt_irrefl _)
  · intro b hb
    rw [List.mem_singleton.mp hb]
    exact next_is_new F
  · intro p hp hI
    exact absurd (Heap.lt_size (N p hp).1) ((List.mem_singleton.mp hI) ▸ Nat.lt_irrefl _)
  · rintro i v m₁ news₁ s₁ own ⟨hh', tk', rfl⟩ hin ⟨_, t, rfl⟩ ⟨c, rfl, h1, h2, hJ⟩ hoff hown _ hall hst F₁ N₁
    have e1 : (0 : Int) + (i : Int) * 1 = (i : Int) := by omega
    rw [e1] at F₁
    have hno : h₀.get? s.heap.objs.size = none := next_is_new F
    obtain ⟨oI, hoI⟩ : ∃ o, hh'.get? s.heap.objs.size = some o := ⟨_, hst⟩
    have hIo := hall _ (List.mem_singleton.mpr rfl) hno _ hoI
    have N₂ : News h₀ env.locals hh' (Led c ++ own) := fun p hp => N₁ p ((List.mem_append.mp hp).elim (fun h => List.mem_append.mpr (.inr h)) fun h => List.mem_append.mpr (.inl h))
    have hsep : ∀ p ∈ Led c, ∀ q ∈ own, p.1 ≠ q.1 := fun p hp q hq e => hoff p hp (by rw [e]; exact hown q hq)
    refine wpAny_mono (turn i t c m₁ hh' tk' own hin hsep hJ (kst_fr h1 h2 F₁) N₂) (fun f s₂ p => ?_) fun _ _ e => e
    have fin : FreeEnd h₀ env.locals Led ps x stored m₀ own (J (i + 1)) { s with heap := hh', toks := tk' } s₂ → LoopStepU h₀ env.locals [s.heap.objs.size] own (fun m nx => ∃ c : σ, nx = Led c ∧ (∀ p ∈ ps c, m p.1 = some p.2) ∧ (∀ z, z ≠ x → (∀ p ∈ ps c, z ≠ p.1) → stored.contains z = false → m z = m₀ z) ∧ J (i + 1) c) { s with heap := hh', toks := tk' } .next s₂ := by
      rintro ⟨c', h', tk, m', news', e, F', N', hn', ho', hne, hk', hr', hJ'⟩
      refine ⟨rfl, h', tk, m', Led c', e, F', fun p hp => N' p ((List.mem_append.mp hp).elim (ho' p) (hn' p)), fun p hp hq => ?_, c', rfl, hk', hr', hJ'⟩
      exact hne p hp _ hIo (List.mem_singleton.mp hq)
    cases f with
    | ret v => exact .ret p
    | brk => exact .brk p
    | next => exact .next (fin p)
    | cont => exact .cont (fin p)
  · rintro h' tk m' news' F' N' _ ⟨c, rfl, h1, h2, hJ⟩
    exact done c m' h' tk hJ (kst_frOut h1 h2 F') N'
end
end Mine
namespace Mine
section
variable {prog : Program} {w : World} {A : Around} {E : Value → Shared → Prop} {s : Shared} {h₀ : Heap} {L l : Addr} {m : Str → Option Value} {news : List (Addr × Obj)} {xs : Array Value} {n : Nat}
theorem append_led {x : Value} {Q : Value → Shared → Prop} (F : Fr h₀ L s.heap m) (N : News h₀ L s.heap ((l, W.listOf xs n) :: news)) (off : ∀ p ∈ news, p.1 ≠ l) (hsz : xs.size ≤ 100000)
    (h : ∀ h' k', Fr h₀ L h' m → News h₀ L h' ((l, W.listOf (xs.push x) k') :: news) → Q .none { s with heap := h' }) :
    wpAny (model prog w) A (call (.builtin "list.append") [.ref l, x]) Q E s := by
  obtain ⟨hp, g, d, tk, os⟩ := s
  have hl := N _ (List.mem_cons_self ..)
  have ho := hl.1
  refine wpAny_call_entry PySem.slot_list_append ⟨_, ho, rfl⟩ PySem.entry_list_append ?_ (PySem.args_list_append _ _)
  show wpAny _ _ (updateSeq l (·.push x) >>= fun _ => ret .none) _ _ _
  have h1 := Heap.get?_update_self (h := hp) (Obj.mapSeq (·.push x)) ho rfl
  have hs := Heap.SameBut.update hp l (Obj.mapSeq (·.push x))
  have key : News h₀ L (hp.update l (Obj.mapSeq (·.push x))) ((l, Obj.mapSeq (·.push x) (W.listOf xs n)) :: news) := fun p hp => by
    rcases List.mem_cons.mp hp with rfl | hp
    · exact ⟨h1, hl.2⟩
    · have := N p (List.mem_cons_of_mem _ hp)
      exact ⟨(hs.2 _ (off p hp)).trans this.1, this.2⟩
  exact wpAny_bind (wpAny_updateSeq ho rfl (wpAny_pure ⟨.none, rfl, h _ _ (F.update N (List.mem_cons_self ..) hs) key⟩) (by rw [sizeLine_eq]; omega) (by rw [sizeLine_eq]; simp; omega))
end
end Mine
end
section -- L0
open PySem PySem.W PyProof.Rows PySem.Calls
namespace Mine
/-- some int came out, and the locals stayed -/
structure IntMid (h₀ : Heap) (L : Addr) (m : Str → Option Value) (s : Shared) (v : Value) (s' : Shared) : Prop where
  ex : ∃ (i : Int) (t : Tok) (h : Heap) (k : Nat), v = .int i t ∧ s' = { s with heap := h, toks := k } ∧ Fr h₀ L h m
theorem cut_int {h₀ : Heap} {L : Addr} {m : Str → Option Value} {M : Model} {A : Around} {E : Value → Shared → Prop} {s : Shared} {t : Sem Value} {Q : Value → Shared → Prop} (_F : Fr h₀ L s.heap m) (h1 : wpAny M A t (IntMid h₀ L m s) E s) (h2 : ∀ i u h k, Fr h₀ L h m → News h₀ L h [] → Q (.int i u) { s with heap := h, toks := k }) : wpAny M A t Q E s :=
  wpAny_mono h1 (fun v s' ⟨⟨i, u, h, k, hv, hs, F⟩⟩ => by subst hv; subst hs; exact h2 i u h k F News.nil) fun _ _ x => x
theorem int_mid {h₀ : Heap} {L : Addr} {m : Str → Option Value} {s : Shared} {i : Int} {t : Tok} {h : Heap} {k : Nat} (F : Fr h₀ L h m) : IntMid h₀ L m s (.int i t) { s with heap := h, toks := k } := ⟨⟨i, t, h, k, rfl, rfl, F⟩⟩
theorem no_list {ks : List Int} (h1 : decide (ks = []) = false) (h2 : (0 : Int) < -(ks.length : Int) ∨ (ks.length : Int) ≤ 0) : False := by
  apply of_decide_eq_false h1
  apply List.length_eq_zero_iff.mp
  omega
/-- one sign of a list came out -/
structure SgnMid (l : List Nat) (s : Shared) (v : Value) (s' : Shared) : Prop where
  ex : ∃ (c : Nat) (t : Tok) (k : Nat), c ∈ l ∧ v = .str ⟨#[c]⟩ t ∧ s' = { s with toks := k }
theorem cut_sgn (l : List Nat) {M : Model} {A : Around} {E : Value → Shared → Prop} {s : Shared} {t : Sem Value} {Q : Value → Shared → Prop} (h1 : wpAny M A t (SgnMid l s) E s) (h2 : ∀ c u k, c ∈ l → Q (.str ⟨#[c]⟩ u) { s with toks := k }) : wpAny M A t Q E s :=
  wpAny_mono h1 (fun v s' ⟨⟨c, u, k, hc, hv, hs⟩⟩ => by subst hv; subst hs; exact h2 c u k hc) fun _ _ x => x
def chkS (l : List Nat) (xs : List Str) : Bool := xs.all fun y => match y.cps.toList with
  | [c] => decide (c ∈ l)
  | _ => false
theorem sgn_one {l : List Nat} {y : Str} (h : chkS l [y] = true) : ∃ c, c ∈ l ∧ y = ⟨#[c]⟩ := by
  have := List.all_eq_true.mp h y (List.mem_singleton.mpr rfl)
  match e : y.cps.toList, this with
  | [c], h2 =>
    rw [e] at this
    refine ⟨c, of_decide_eq_true this, ?_⟩
    have : y.cps = #[c] := by rw [← Array.toArray_toList (xs := y.cps), e]
    cases y
    simp only at this
    rw [this]
theorem sgn_mid {l : List Nat} {s : Shared} {y : Str} {t : Tok} {k : Nat} (h : chkS l [y] = true) : SgnMid l s (.str y t) { s with toks := k } := by
  obtain ⟨c, hc, rfl⟩ := sgn_one h
  exact ⟨⟨c, t, k, hc, rfl, rfl⟩⟩
theorem sgn_midL {l : List Nat} {s : Shared} {xs : List Str} {i : Nat} {t : Tok} {k : Nat} (h : chkS l xs = true) (hi : i < xs.length) : SgnMid l s (.str (xs.getD i Str.empty) t) { s with toks := k } := by
  refine sgn_mid ?_
  have e : xs.getD i Str.empty = xs[i] := by rw [List.getD_eq_getElem?_getD, List.getElem?_eq_getElem hi]; rfl
  rw [e]
  have := List.all_eq_true.mp h xs[i] (List.getElem_mem hi)
  unfold chkS
  rw [List.all_cons, List.all_nil, Bool.and_true]
  exact this
end Mine
end
section -- PureO
open PySem PySem.W PyProof.Rows
namespace Mine
def hdrL (l : List Nat) : Bool := decide (95 ∉ l) && !escA kD l
def oneI (b : Bool) : Int := if b = true then 1 else 0
/-- what holds behind k turns -/
structure Jm (k : Nat) (w a b c : Int) : Prop where
  a0 : 0 ≤ a
  aw : a ≤ w
  b0 : 0 ≤ b
  bw : b ≤ w
  c0 : 0 ≤ c
  cw : c ≤ w
  wk : w ≤ k
  f0 : 1 ≤ k → 1 ≤ a ∧ 1 ≤ b ∧ 1 ≤ c
  f1 : 2 ≤ k → a < w ∧ c < w
  f2 : 27 ≤ k → b < w
theorem jm_0 : Jm 0 0 0 0 0 := by constructor <;> omega
theorem jm_end {w a b c : Int} (h : Jm 85 w a b c) : 0 < a ∧ a < w ∧ 0 < b ∧ b < w ∧ 0 < c ∧ c < w ∧ w ≤ 85 := by
  have h0 := h.f0 (by omega)
  have h1 := h.f1 (by omega)
  have h2 := h.f2 (by omega)
  have h3 := h.wk
  omega
theorem writ_kk (m : Nat) (hm : m = 4 ∨ m = 5) : writL [107, 107] m = true := by
  rcases hm with rfl | rfl <;> decide +kernel
theorem writ_eq (m : Nat) : writL [107, 107, 61] m = false := by
  unfold writL
  have : List.all [107, 107, 61] (fun c => !noWrC c) = false := by decide +kernel
  rw [this, Bool.false_and]
theorem esc_figs : ∀ c ∈ figs, hdrL [61, c, c] = false := by decide +kernel
section
variable {c1 c2 c3 : Nat} {k : Nat} {w a b c : Int} {l : List Nat}
theorem jm_skip (h : Jm k w a b c) (hl : (lev [61, c1, c2, c3] 3)[k]? = some l) (h3 : l.length = 3) (hne : l[0]? ≠ some 61) : Jm (k + 1) w a b c := by
  have n0 : k ≠ 0 := by rintro rfl; rw [lev_at0] at hl; have := Option.some.inj hl; subst this; simp at h3
  have n1 : k ≠ 1 := by rintro rfl; rw [lev_at1] at hl; have := Option.some.inj hl; subst this; simp at h3
  have n2 : k ≠ 26 := by rintro rfl; rw [lev_at26] at hl; have := Option.some.inj hl; subst this; simp at hne
  have := h.a0
  have := h.aw
  have := h.b0
  have := h.bw
  have := h.c0
  have := h.cw
  have := h.wk
  exact ⟨h.a0, h.aw, h.b0, h.bw, h.c0, h.cw, by omega, fun _ => h.f0 (by omega), fun _ => h.f1 (by omega), fun _ => h.f2 (by omega)⟩
theorem one_le (b : Bool) : 0 ≤ oneI b ∧ oneI b ≤ 1 := by cases b <;> decide
theorem jm_turn (h : Jm k w a b c) (hl : (lev [61, c1, c2, c3] 3)[k]? = some l) (hc : c1 ∈ figs) (m : Nat) (hm : m = 4 ∨ m = 5) : Jm (k + 1) (w + 1) (a + oneI (readL l)) (b + oneI (hdrL l)) (c + oneI (writL (107 :: 107 :: l) m)) := by
  have ra := one_le (readL l)
  have rb := one_le (hdrL l)
  have rc := one_le (writL (107 :: 107 :: l) m)
  have h1 := h.a0
  have h2 := h.aw
  have h3 := h.b0
  have h4 := h.bw
  have h5 := h.c0
  have h6 := h.cw
  have h7 := h.wk
  have e0 : k = 0 → oneI (readL l) = 1 ∧ oneI (hdrL l) = 1 ∧ oneI (writL (107 :: 107 :: l) m) = 1 := by
    rintro rfl
    rw [lev_at0] at hl
    have := Option.some.inj hl
    subst this
    rw [writ_kk m hm]
    decide +kernel
  have e1 : k = 1 → oneI (readL l) = 0 ∧ oneI (writL (107 :: 107 :: l) m) = 0 := by
    rintro rfl
    rw [lev_at1] at hl
    have := Option.some.inj hl
    subst this
    rw [writ_eq m]
    decide +kernel
  have e2 : k = 26 → oneI (hdrL l) = 0 := by
    rintro rfl
    rw [lev_at26] at hl
    have := Option.some.inj hl
    subst this
    rw [esc_figs c1 hc]
    decide
  refine ⟨by omega, by omega, by omega, by omega, by omega, by omega, by omega, fun _ => ?_, fun _ => ?_, fun _ => ?_⟩
  · by_cases hk : k = 0
    · have := e0 hk; omega
    · have := h.f0 (by omega); omega
  · by_cases hk : k = 1
    · have := e1 hk; omega
    · have := h.f1 (by omega); omega
  · by_cases hk : k = 26
    · have := e2 hk; omega
    · have := h.f2 (by omega); omega
end
end Mine
end
section -- BaseM
open PySem PySem.W PyProof.Rows PySem.Calls
namespace Mine
section
variable {M : Model} {prog : Program} {w : World} {A : Around} {E : Value → Shared → Prop} {s : Shared} {env : Env}
theorem ite_one {b : Bool} {k1 k2 : Nat} {p q : Pos} {Q : Value → Shared → Prop} (h : ∀ t k, Q (.int (oneI b) t) { s with toks := k }) :
    if b = true then wpAny M A (eval (.Constant (.int 1) k1 p) env) Q E s else wpAny M A (eval (.Constant (.int 0) k2 q) env) Q E s := by
  cases b
  · rw [if_neg Bool.false_ne_true]; exact wpAny_Constant_int (h _ _)
  · rw [if_pos rfl]; exact wpAny_Constant_int (h _ _)
/-- what comes out has a property, and the frame and the ledger stay -/
structure Mid {α : Type} (h₀ : Heap) (L : Addr) (m : Str → Option Value) (news : List (Addr × Obj)) (s : Shared) (P : α → Prop) (v : α) (s' : Shared) : Prop where
  ex : ∃ h k, P v ∧ s' = { s with heap := h, toks := k } ∧ Fr h₀ L h m ∧ News h₀ L h news
theorem cut_mid {α : Type} {h₀ : Heap} {L : Addr} {m : Str → Option Value} {news : List (Addr × Obj)} {t : Sem α} {Q : α → Shared → Prop} (P : α → Prop) (_F : Fr h₀ L s.heap m) (_N : News h₀ L s.heap news)
    (h1 : wpAny M A t (Mid h₀ L m news s P) E s) (h2 : ∀ v h k, P v → Fr h₀ L h m → News h₀ L h news → Q v { s with heap := h, toks := k }) : wpAny M A t Q E s :=
  wpAny_mono h1 (fun v s' ⟨⟨h, k, hv, hs, F, N⟩⟩ => by subst hs; exact h2 v h k hv F N) fun _ _ x => x
theorem Mid.mk' {α : Type} {h₀ : Heap} {L : Addr} {m : Str → Option Value} {news : List (Addr × Obj)} {P : α → Prop} {v : α} {h : Heap} {k : Nat} (F : Fr h₀ L h m) (N : News h₀ L h news) (hp : P v) : Mid h₀ L m news s P v { s with heap := h, toks := k } := ⟨⟨h, k, hp, rfl, F, N⟩⟩
theorem ne_same {Q : Value → Shared → Prop} {a b : Bool} (e : a = b) (h : Q (.bool false) s) : wpAny (model prog w) A (compareOp .NotEq (.bool a) (.bool b)) Q E s :=
  EqBoolInt.of_rcne (SeqAt.RcNeAt.bool_bool a b) (by subst e; simpa using h)
theorem str_dec (l : List Nat) (y : Str) : ((⟨l.toArray⟩ : Str) == y) = decide (l = y.cps.toList) := by
  rw [Bool.eq_iff_iff, beq_iff_eq, decide_eq_true_eq]
  constructor
  · intro h; rw [← h]
  · intro h
    cases y
    simp only at h
    rw [h]
theorem kk_list (y : Str) : (Str.ofString "kk" ++ y).cps.toList = 107 :: 107 :: y.cps.toList := by
  rw [Str.cps_append, Array.toList_append, show (Str.ofString "kk").cps.toList = [107, 107] by decide +kernel]
  rfl
theorem kk_len (y : Str) : (Str.ofString "kk" ++ y).length = y.length + 2 := by
  have : (Str.ofString "kk" ++ y).cps.toList.length = (107 :: 107 :: y.cps.toList).length := by rw [kk_list]
  simpa [Str.length] using this
theorem body_kk (y : Str) (m : Nat) (hm : m = 4 ∨ m = 5) (hl : y.cps.toList.length ≤ 3) (ha : ∀ c ∈ y.cps.toList, c ∈ alph) : ((⟨(bodyA kB 61 10 q1N q2N m (Str.ofString "kk" ++ y).cps.toList).toArray⟩ : Str) == (Str.ofString "kk" ++ y)) = writL (Str.ofString "kk" ++ y).cps.toList m := by
  rw [str_dec, kk_list]
  exact body_law _ m hm hl ha
theorem alph_lt : ∀ c ∈ alph, c < 2 ^ 32 := by decide +kernel
theorem alph_hex : ∀ c ∈ alph, hexC c = true → c ∈ figs := by decide +kernel
theorem kk_lt (y : Str) (ha : ∀ c ∈ y.cps.toList, c ∈ alph) : ∀ c ∈ (Str.ofString "kk" ++ y).cps.toList, c < 2 ^ 32 := by
  rw [kk_list]
  intro c hc
  rcases List.mem_cons.mp hc with rfl | hc
  · decide
  rcases List.mem_cons.mp hc with rfl | hc
  · decide
  exact alph_lt c (ha c hc)
theorem notin_us {y : Str} {t u : Tok} {Q : Value → Shared → Prop} {z : Str} (hz : z = ⟨#[95]⟩) (h : Q (.bool (decide (95 ∉ y.cps.toList))) s) : wpAny (model prog w) A (compareOp .NotIn (.str z t) (.str y u)) Q E s := by
  subst hz
  refine notIn_str ?_
  rw [one_in, Bool.not_not]
  have e : (!decide (95 ∈ y.cps.toList)) = decide (95 ∉ y.cps.toList) := by rw [← decide_not]
  rw [e]
  exact h
theorem item_pcs {value slice : PySem.Expr} {l : Addr} {cs : Array Value} {base : List (List Nat)} {i : Nat} {u : Tok} {z : List Nat} {Q : Value → Shared → Prop} (hl : s.heap.IsList l cs) (hp : Pcs cs base) (hz : base[i]? = some z) (hi : i < 1000) (h : ∀ y t, y.cps.toList = z → Q (.str y t) s)
    (hs : subscripted slice false (.ref l) (.int (i : Nat) u) = operate [.ref l, .int (i : Nat) u] (getItem (.ref l) (.int (i : Nat) u)) := by with_unfolding_all rfl) :
    wpAny (model prog w) A (subscriptTail value slice (.ref l) (.int (i : Nat) u)) Q E s := by
  obtain ⟨ts, h1, h2⟩ := hp
  have hlen : i < base.length := by
    rcases Nat.lt_or_ge i base.length with h | h
    · exact h
    · rw [List.getElem?_eq_none h] at hz; exact nomatch hz
  have hlt : i < ts.length := by rw [← h2, List.length_map] at hlen; exact hlen
  obtain ⟨t, hx⟩ := h1.get i ts[i] (List.getElem?_eq_getElem hlt)
  have hy : ts[i].cps.toList = z := by
    rw [← h2, List.getElem?_map, List.getElem?_eq_getElem hlt] at hz
    exact Option.some.inj hz
  refine tail_any hl.typeIs slot_list_getitem.lookup (wpAny_getItem_list hl (by omega) (by omega) ?_ (h _ t hy)) hs
  rw [Array.getElem?_toList] at hx
  exact hx
end
end Mine
end
section -- BaseN
open PySem PySem.W PyProof.Rows PySem.Calls
namespace Mine
section
variable {prog : Program} {w : World} {A : Around} {E : Value → Shared → Prop} {s : Shared} {env : Env} {h₀ : Heap} {x : Str} {body : List Stmt} {Q : Flow → Shared → Prop}
/-- over a list of texts that stays in the ledger; the ledger's other parts may change -/
theorem loop_strsF {σ : Type} {l : Addr} {vs : List Value} {xs : List Str} {nn : Nat} {m₀ : Str → Option Value} (Led : σ → List (Addr × Obj)) (ps : σ → List (Str × Value)) (stored : List Str) (J : List Str → σ → Prop) (c₀ : σ)
    (hh : A.handled = none) (hl : ∀ c, (l, listOf vs.toArray nn) ∈ Led c) (hi : StrsAre vs xs) (F : Fr h₀ env.locals s.heap m₀) (N : News h₀ env.locals s.heap (Led c₀)) (hk : ∀ p ∈ ps c₀, m₀ p.1 = some p.2) (hj : J [] c₀)
    (turn : ∀ pre y post t (c : σ) (u : Str → Option Value) h tk own, xs = pre ++ y :: post → (∀ p ∈ Led c, ∀ q ∈ own, p.1 ≠ q.1) → J pre c → Fr h₀ env.locals h (fun z => if z = x then some (.str y t) else kstB (fun z => if stored.contains z then u z else m₀ z) (ps c) z) → News h₀ env.locals h (Led c ++ own) →
      wpAny (model prog w) A (execs body env) (fun f s₂ => match f with | .ret v => Q (.ret v) s₂ | .brk => Q .next s₂ | .next => FreeEnd h₀ env.locals Led ps x stored m₀ own (J (pre ++ [y])) { s with heap := h, toks := tk } s₂ | .cont => FreeEnd h₀ env.locals Led ps x stored m₀ own (J (pre ++ [y])) { s with heap := h, toks := tk } s₂) E { s with heap := h, toks := tk })
    (done : ∀ (c : σ) (u : Str → Option Value) h tk, J xs c → Fr h₀ env.locals h (fun y => if y = x then u y else kstB (fun z => if stored.contains z then u z else m₀ z) (ps c) y) → News h₀ env.locals h (Led c) → Q .next { s with heap := h, toks := tk }) :
    wpAny (model prog w) A (pyIter (.ref l)) (fun it s₂ => LoopAtV prog w A h₀ env x body Q E it s₂) E s := by
  have hol : s.heap.get? l = some (listOf vs.toArray nn) := (N _ (hl c₀)).1
  have hls : s.heap.IsList l vs.toArray := ⟨_, hol, rfl, nn, rfl⟩
  have hlI : l ≠ s.heap.objs.size := Nat.ne_of_lt (Heap.lt_size hol)
  have hno : h₀.get? s.heap.objs.size = none := next_is_new F
  refine wpAny_pyIter_list hls ?_
  have W := Walks.list (prog := prog) (w := w) hh s.heap.objs.size l hlI vs.toArray
  refine ⟨_, _, _, _, _, _, m₀, Led c₀, fun i m nx => ∃ c : σ, nx = Led c ∧ (∀ p ∈ ps c, m p.1 = some p.2) ∧ (∀ z, z ≠ x → (∀ p ∈ ps c, z ≠ p.1) → stored.contains z = false → m z = m₀ z) ∧ J (xs.take i) c, rfl, W, ?_, ?_, ?_, ⟨⟨_, Heap.get?_push_size _ rfl, rfl, rfl⟩, hls.at fun o e => Heap.get?_push_of_some _ e⟩, F.push _, (fun p hp => ⟨Heap.get?_push_of_some _ (N p hp).1, (N p hp).2⟩), ⟨c₀, rfl, hk, fun _ _ _ _ => rfl, (by simpa using hj)⟩, ?_, ?_⟩
  · intro hm
    rcases List.mem_cons.mp hm with e | hm
    · exact absurd F.ns.lt (e ▸ Nat.lt_irrefl _)
    · exact (N _ (hl c₀)).2.1 ((List.mem_singleton.mp hm).symm)
  · intro b hb
    rw [List.mem_singleton.mp hb]
    exact hno
  · intro p hp hI
    exact absurd (Heap.lt_size (N p hp).1) ((List.mem_singleton.mp hI) ▸ Nat.lt_irrefl _)
  · rintro i v m₁ news₁ s₁ own ⟨hh', tk', rfl⟩ hin hP ⟨c, rfl, h1, h2, hJ⟩ hoff hown hget hall hst F₁ N₁
    have hin' : i < xs.length := by
      have h1 : vs.toArray.size = xs.length := (List.size_toArray ..).trans hi.length
      exact h1 ▸ hin
    obtain ⟨t, hx⟩ := hi.get i xs[i] (List.getElem?_eq_getElem hin')
    have hv : v = .str xs[i] t := by
      have hP' : vs[i]? = some v := (List.getElem?_toArray ..).symm.trans hP
      rw [hx] at hP'; exact (Option.some.inj hP').symm
    subst hv
    have hn : xs[i]? = some xs[i] := List.getElem?_eq_getElem hin'
    have hs' : xs.take (i + 1) = xs.take i ++ [xs[i]] := by rw [List.take_add_one, hn]; rfl
    have e : xs = xs.take i ++ xs[i] :: xs.drop (i + 1) := by
      have ht := List.take_append_drop (i + 1) xs
      rw [hs', List.append_assoc] at ht
      exact ht.symm
    obtain ⟨oI, hoI, _⟩ := hst.1
    have hIo := hall _ (List.mem_cons_self ..) hno _ hoI
    have N₂ : News h₀ env.locals hh' (Led c ++ own.filter fun p => decide (p.1 = s.heap.objs.size)) := fun p hp => N₁ p ((List.mem_append.mp hp).elim (fun h => List.mem_append.mpr (.inr h)) fun h => List.mem_append.mpr (.inl (List.mem_filter.mp h).1))
    have hsep : ∀ p ∈ Led c, ∀ q ∈ own.filter (fun p => decide (p.1 = s.heap.objs.size)), p.1 ≠ q.1 := fun p hp q hq e => hoff p hp (by rw [e, of_decide_eq_true (List.mem_filter.mp hq).2]; exact List.mem_singleton.mpr rfl)
    have tn := turn _ _ _ t c m₁ hh' tk' _ e hsep hJ (kst_fr h1 h2 F₁) N₂
    rw [← hs'] at tn
    refine wpAny_mono tn (fun f s₂ p => ?_) fun _ _ e => e
    have fin : FreeEnd h₀ env.locals Led ps x stored m₀ (own.filter fun p => decide (p.1 = s.heap.objs.size)) (J (xs.take (i + 1))) { s with heap := hh', toks := tk' } s₂ → LoopStepU h₀ env.locals [s.heap.objs.size] own (fun m nx => ∃ c : σ, nx = Led c ∧ (∀ p ∈ ps c, m p.1 = some p.2) ∧ (∀ z, z ≠ x → (∀ p ∈ ps c, z ≠ p.1) → stored.contains z = false → m z = m₀ z) ∧ J (xs.take (i + 1)) c) { s with heap := hh', toks := tk' } .next s₂ := by
      rintro ⟨c', h', tk, m', news', e, F', N', hn', ho', hne, hk', hr', hJ'⟩
      have hIf : (s.heap.objs.size, oI) ∈ own.filter fun p => decide (p.1 = s.heap.objs.size) := List.mem_filter.mpr ⟨hIo, decide_eq_true rfl⟩
      refine ⟨rfl, h', tk, m', Led c', e, F', fun p hp => N' p ((List.mem_append.mp hp).elim (fun hp => ?_) (hn' p)), fun p hp hq => ?_, c', rfl, hk', hr', hJ'⟩
      · rcases List.mem_cons.mp (hown p hp) with e1 | e1
        · exact ho' p (List.mem_filter.mpr ⟨hp, decide_eq_true e1⟩)
        · have e2 := List.mem_singleton.mp e1
          have g1 := hget p hp
          have g2 := (N₂ _ (List.mem_append_left _ (hl c))).1
          rw [e2] at g1
          have e3 : p = (l, listOf vs.toArray nn) := by
            obtain ⟨p1, p2⟩ := p
            simp only at e2 g1
            subst e2
            rw [show hh'.get? p1 = some p2 from g1] at g2
            rw [Option.some.inj g2]
          rw [e3]
          exact hn' _ (hl c')
      · exact hne p hp _ hIf (List.mem_singleton.mp hq)
    cases f with
    | ret v => exact .ret p
    | brk => exact .brk p
    | next => exact .next (fin p)
    | cont => exact .cont (fin p)
  · rintro h' tk m' news' F' N' _ ⟨c, rfl, h1, h2, hJ⟩
    have : vs.toArray.size = xs.length := by simp [hi.length]
    rw [this, List.take_length] at hJ
    exact done c m' h' tk hJ (kst_frOut h1 h2 F') N'
end
theorem one_signs {c1 c2 c3 : Nat} {pre post : List Str} {z : Str} (e : [Str.ofString "=", (⟨#[c1]⟩ : Str), ⟨#[c2]⟩, ⟨#[c3]⟩] = pre ++ z :: post) : z.length = 1 ∧ pre.length ≤ 3 := by
  have h : z ∈ [Str.ofString "=", (⟨#[c1]⟩ : Str), ⟨#[c2]⟩, ⟨#[c3]⟩] := by rw [e]; simp
  have hl := congrArg List.length e
  simp only [List.length_append, List.length_cons, List.length_nil] at hl
  refine ⟨?_, by omega⟩
  simp only [List.mem_cons, List.not_mem_nil, or_false] at h
  rcases h with rfl | rfl | rfl | rfl
  · decide +kernel
  · rfl
  · rfl
  · rfl
theorem signs_map (y : Str) (c1 c2 c3 : Nat) : ([Str.ofString "=", (⟨#[c1]⟩ : Str), ⟨#[c2]⟩, ⟨#[c3]⟩].map fun z => y.cps.toList ++ z.cps.toList) = [61, c1, c2, c3].map fun c => y.cps.toList ++ [c] := by
  have : (Str.ofString "=").cps.toList = [61] := by decide +kernel
  simp [this]
theorem pick_yes (pre : List Str) (y : Str) (i : Nat) (sg : List Nat) (h : y.cps.toList.length = i) : (((pre ++ [y]).map (·.cps.toList)).filter fun t => decide (t.length = i)).flatMap (fun t => sg.map fun c => t ++ [c]) = ((pre.map (·.cps.toList)).filter fun t => decide (t.length = i)).flatMap (fun t => sg.map fun c => t ++ [c]) ++ sg.map fun c => y.cps.toList ++ [c] := by
  rw [List.map_append, List.filter_append, List.flatMap_append]
  congr 1
  rw [List.map_singleton, List.filter_cons_of_pos (by rw [decide_eq_true h]), List.filter_nil, List.flatMap_singleton]
theorem pick_no (pre : List Str) (y : Str) (i : Nat) (sg : List Nat) (h : y.cps.toList.length ≠ i) : (((pre ++ [y]).map (·.cps.toList)).filter fun t => decide (t.length = i)).flatMap (fun t => sg.map fun c => t ++ [c]) = ((pre.map (·.cps.toList)).filter fun t => decide (t.length = i)).flatMap (fun t => sg.map fun c => t ++ [c]) := by
  rw [List.map_append, List.filter_append, List.flatMap_append, List.map_singleton, List.filter_cons_of_neg (by rw [decide_eq_false h]; decide), List.filter_nil, List.flatMap_nil, List.append_nil]
theorem free_end {env : Env} {h₀ : Heap} {lT : Addr} {x : Str} {stored : List Str} {m₀ m' : Str → Option Value} {rest own : List (Addr × Obj)} {J : Array Value × Nat → Prop} {s₁ : Shared} {h' : Heap} {tk : Nat} {xs xs₀ : Array Value} {k k₀ : Nat}
    (F : Fr h₀ env.locals h' m') (N : News h₀ env.locals h' ((lT, W.listOf xs k) :: (rest ++ own))) (hne : ∀ p ∈ (lT, W.listOf xs₀ k₀) :: rest, ∀ q ∈ own, p.1 ≠ q.1)
    (hr : ∀ z, z ≠ x → (∀ p ∈ ([] : List (Str × Value)), z ≠ p.1) → stored.contains z = false → m' z = m₀ z) (hJ : J (xs, k)) :
    FreeEnd h₀ env.locals (fun c : Array Value × Nat => (lT, W.listOf c.1 c.2) :: rest) (fun _ => []) x stored m₀ own J s₁ { s₁ with heap := h', toks := tk } := by
  refine ⟨(xs, k), h', tk, m', _, rfl, F, N, fun _ hp => List.mem_append_left own hp, fun _ hp => List.mem_append_right ((lT, W.listOf xs k) :: rest) hp, fun p hp q hq => ?_, (fun p hp => nomatch hp), hr, hJ⟩
  rcases List.mem_cons.mp hp with rfl | hp
  · exact hne (lT, W.listOf xs₀ k₀) (List.mem_cons_self ..) q hq
  · exact hne p (List.mem_cons_of_mem _ hp) q hq
theorem kst_endA {env : Env} {h₀ : Heap} {lT : Addr} {x : Str} {stored : List Str} {m₀ m' : Str → Option Value} {rest own : List (Addr × Obj)} {adr : List Addr} {P : List Int → Array Value × Nat → Prop} {pre : List Int} {s₁ : Shared} {h' : Heap} {tk : Nat} {xs : Array Value} {k : Nat}
    (F : Fr h₀ env.locals h' m') (N : News h₀ env.locals h' ((lT, W.listOf xs k) :: (rest ++ own))) (ha : lT :: rest.map (·.1) = adr)
    (hr : ∀ z, z ≠ x → (∀ p ∈ ([] : List (Str × Value)), z ≠ p.1) → stored.contains z = false → m' z = m₀ z) (hp : P pre (xs, k)) :
    InvEndN h₀ env.locals (KstS (fun c : Array Value × Nat => (lT, W.listOf c.1 c.2) :: rest) (fun _ => []) (fun _ => True) x stored m₀ P pre) own adr s₁ { s₁ with heap := h', toks := tk } :=
  kst_end (xs, k) F N (fun _ hp => List.mem_append_left own hp) (fun _ hp => List.mem_append_right ((lT, W.listOf xs k) :: rest) hp) ha trivial (fun p hp => nomatch hp) hr hp
structure MSt where
  sA : Addr
  n : Nat
  a : Int
  ta : Tok
  b : Int
  tb : Tok
  c : Int
  tc : Tok
  w : Int
  tw : Tok
theorem get_lev {c1 c2 c3 k : Nat} (h : k < 85) : ∃ z, (lev [61, c1, c2, c3] 3)[k]? = some z := by
  have : k < (lev [61, c1, c2, c3] 3).length := by rw [lev_size]; exact h
  exact ⟨_, List.getElem?_eq_getElem this⟩
theorem lev_alph {c1 c2 c3 k : Nat} {z : List Nat} (h1 : c1 ∈ figs) (h2 : c2 ∈ alph) (h3 : c3 ∈ alph) (h : (lev [61, c1, c2, c3] 3)[k]? = some z) : z.length ≤ 3 ∧ ∀ c ∈ z, c ∈ alph := by
  have hf : ∀ c ∈ figs, c ∈ alph := by decide +kernel
  have := lev_mem [61, c1, c2, c3] 3 z (List.mem_of_getElem? h)
  refine ⟨this.1, fun c hc => ?_⟩
  have hm := this.2 c hc
  simp only [List.mem_cons, List.not_mem_nil, or_false] at hm
  rcases hm with rfl | rfl | rfl | rfl
  · decide +kernel
  · exact hf _ h1
  · exact h2
  · exact h3
theorem skip_fact {y : Str} (h1 : (y.length : Int) = 3) (h2 : cI y 0 ≠ 61) : y.cps.toList.length = 3 ∧ y.cps.toList[0]? ≠ some 61 := by
  have h3 : y.cps.size = 3 := by
    have : (y.cps.size : Int) = 3 := h1
    omega
  refine ⟨by rw [Array.length_toList]; exact h3, fun e => h2 ?_⟩
  rw [Array.getElem?_toList] at e
  show y.cps.getD (0 : Int).toNat 0 = 61
  rw [Array.getD_eq_getD_getElem?, show (0 : Int).toNat = 0 from rfl, e]
  rfl
theorem hdrv_no {l : List Nat} (h : decide (95 ∉ l) = false) : (Value.bool (decide (95 ∉ l))) = .bool (hdrL l) := by
  unfold hdrL; rw [h]; rfl
theorem hdrv_yes {l : List Nat} (h : decide (95 ∉ l) = true) : (Value.bool (!escA kD l)) = .bool (hdrL l) := by
  unfold hdrL; rw [h]; rfl
theorem mst_end {env : Env} {h₀ : Heap} {x : Str} {stored : List Str} {m₀ m' : Str → Option Value} {rest own : List (Addr × Obj)} {J : MSt → Prop} {s₁ : Shared} {h' : Heap} {tk : Nat} (c c' : MSt) {news' : List (Addr × Obj)}
    (F : Fr h₀ env.locals h' m') (N : News h₀ env.locals h' news') (hn : ∀ p ∈ (c'.sA, W.listOf #[Value.int c'.a c'.ta, Value.int c'.b c'.tb, Value.int c'.c c'.tc] c'.n) :: rest, p ∈ news') (ho : ∀ p ∈ own, p ∈ news')
    (hne : ∀ p ∈ (c.sA, W.listOf #[Value.int c.a c.ta, Value.int c.b c.tb, Value.int c.c c.tc] c.n) :: rest, ∀ q ∈ own, p.1 ≠ q.1) (hlt : c'.sA = c.sA ∨ ∀ q ∈ own, q.1 < c'.sA)
    (hk : ∀ p ∈ [(Str.ofString "stays", Value.ref c'.sA), (Str.ofString "walked", Value.int c'.w c'.tw)], m' p.1 = some p.2)
    (hr : ∀ z, z ≠ x → (∀ p ∈ [(Str.ofString "stays", Value.ref c'.sA), (Str.ofString "walked", Value.int c'.w c'.tw)], z ≠ p.1) → stored.contains z = false → m' z = m₀ z) (hJ : J c') :
    FreeEnd h₀ env.locals (fun c => (c.sA, W.listOf #[Value.int c.a c.ta, Value.int c.b c.tb, Value.int c.c c.tc] c.n) :: rest) (fun c => [(Str.ofString "stays", Value.ref c.sA), (Str.ofString "walked", Value.int c.w c.tw)]) x stored m₀ own J s₁ { s₁ with heap := h', toks := tk } := by
  refine ⟨c', h', tk, m', news', rfl, F, N, hn, ho, fun p hp q hq => ?_, hk, hr, hJ⟩
  rcases List.mem_cons.mp hp with rfl | hp
  · rcases hlt with e | e
    · show c'.sA ≠ q.1
      rw [e]
      exact hne _ (List.mem_cons_self ..) q hq
    · exact Nat.ne_of_gt (e q hq)
  · exact hne p (List.mem_cons_of_mem _ hp) q hq
theorem mst_new {env : Env} {h₀ : Heap} {x : Str} {stored : List Str} {m₀ m' : Str → Option Value} {rest own : List (Addr × Obj)} {J : MSt → Prop} {s₁ : Shared} {h' : Heap} {tk : Nat} (c c' : MSt)
    (F : Fr h₀ env.locals h' m') (N : News h₀ env.locals h' ((c'.sA, W.listOf #[Value.int c'.a c'.ta, Value.int c'.b c'.tb, Value.int c'.c c'.tc] c'.n) :: (c.sA, W.listOf #[Value.int c.a c.ta, Value.int c.b c.tb, Value.int c.c c.tc] c.n) :: (rest ++ own)))
    (hne : ∀ p ∈ (c.sA, W.listOf #[Value.int c.a c.ta, Value.int c.b c.tb, Value.int c.c c.tc] c.n) :: rest, ∀ q ∈ own, p.1 ≠ q.1) (hlt : ∀ p ∈ (c.sA, W.listOf #[Value.int c.a c.ta, Value.int c.b c.tb, Value.int c.c c.tc] c.n) :: (rest ++ own), p.1 < c'.sA)
    (hk : ∀ p ∈ [(Str.ofString "stays", Value.ref c'.sA), (Str.ofString "walked", Value.int c'.w c'.tw)], m' p.1 = some p.2)
    (hr : ∀ z, z ≠ x → (∀ p ∈ [(Str.ofString "stays", Value.ref c'.sA), (Str.ofString "walked", Value.int c'.w c'.tw)], z ≠ p.1) → stored.contains z = false → m' z = m₀ z) (hJ : J c') :
    FreeEnd h₀ env.locals (fun c => (c.sA, W.listOf #[Value.int c.a c.ta, Value.int c.b c.tb, Value.int c.c c.tc] c.n) :: rest) (fun c => [(Str.ofString "stays", Value.ref c.sA), (Str.ofString "walked", Value.int c.w c.tw)]) x stored m₀ own J s₁ { s₁ with heap := h', toks := tk } := by
  refine mst_end c c' F N (fun p hp => ?_) (fun p hp => List.mem_cons_of_mem _ (List.mem_cons_of_mem _ (List.mem_append_right rest hp))) hne (.inr fun q hq => hlt q (List.mem_cons_of_mem _ (List.mem_append_right rest hq))) hk hr hJ
  rcases List.mem_cons.mp hp with rfl | hp
  · exact List.mem_cons_self ..
  · exact List.mem_cons_of_mem _ (List.mem_cons_of_mem _ (List.mem_append_left own hp))
end Mine
end
section -- LL
open PySem PySem.W PyProof.Rows PySem.Calls
namespace Mine
theorem pcs_size {cs : Array Value} {base : List (List Nat)} (h : Pcs cs base) : cs.size = base.length := by
  obtain ⟨ts, h1, h2⟩ := h
  have := h1.length
  rw [Array.length_toList] at this
  rw [this, ← h2, List.length_map]
theorem len_ml (i : Int) : ∃ ml : Nat, 4 + (i.fdiv 4).fmod 2 = (ml : Int) ∧ (ml = 4 ∨ ml = 5) := by
  have h0 := Int.fmod_nonneg_of_pos (i.fdiv 4) (show (0 : Int) < 2 by decide)
  have h1 := Int.fmod_lt_of_pos (i.fdiv 4) (show (0 : Int) < 2 by decide)
  rcases (show (i.fdiv 4).fmod 2 = 0 ∨ (i.fdiv 4).fmod 2 = 1 by omega) with e | e
  · exact ⟨4, by rw [e]; rfl, .inl rfl⟩
  · exact ⟨5, by rw [e]; rfl, .inr rfl⟩
local macro_rules | `(tactic| walk_at "exec For Name Call cons nil") => `(tactic| (k_here; (with_reducible rename Fr _ _ _ _ => lF'); (with_unfolding_all refine' For_invVF lF' ?k1 ?k2 ?_; (case k1 => exact rfl); (case k2 => exact rfl); k_whole)))
local macro_rules | `(tactic| walk_at "pyIter ref") => `(tactic| (k_here; refine hold ?_))
local macro_rules | `(tactic| walk_at "eval IfExp") => `(tactic| (k_here; (fail_if_success (with_reducible rename Jm _ _ _ _ _ => hX9)); (fail_if_success (with_reducible show wpAny _ _ _ (IntMid _ _ _ _) _ _)); (with_reducible rename Fr _ _ _ _ => lF'); (with_reducible rename News _ _ _ _ => lN'); refine cut_int lF' ?_ ?_; rotate_left 1; (clear lF' lN'); rotate_right 1))
local macro_rules | `(tactic| walk_at "subscriptTail Name BinOp ref int") => `(tactic| (k_here; (fail_if_success (with_reducible show wpAny _ _ _ (SgnMid _ _) _ _)); (first | ((with_reducible show wpAny _ _ (subscriptTail _ _ (Value.ref 103) _) _ _ _); refine cut_sgn figs ?_ ?_) | ((with_reducible show wpAny _ _ (subscriptTail _ _ (Value.ref 102) _) _ _ _); refine cut_sgn alph ?_ ?_))))
local macro_rules | `(tactic| walk_at "exec For Name Name cons nil") => `(tactic| (k_here; (with_reducible rename Fr _ _ _ _ => lF'); (with_unfolding_all refine' For_invVF lF' ?k1 ?k2 ?_; (case k1 => exact rfl); (case k2 => exact rfl); k_whole)))
local macro_rules | `(tactic| walk_at "exec For Name Subscript cons nil") => `(tactic| (k_here; (with_reducible rename Fr _ _ _ _ => lF'); (with_unfolding_all refine' For_invVF lF' ?k1 ?k2 ?_; (case k1 => exact rfl); (case k2 => exact rfl); k_whole)))
local macro_rules | `(tactic| walk_at "subscriptTail Name Slice ref ref") => `(tactic| (k_here; k_dflt (refine' kmk_slice_lit ?F ?N ?l ?p ?q ?e ?_ ?s ?t ?z; (case F => k_asm); (case N => k_asm); (case l => exact News.isList (by with_reducible assumption) (List.Mem.head _)); (case p => kmk_part); (case q => kmk_part); (case e => exact congrArg Array.toList (slicePick_all _)); (case s => with_unfolding_all rfl); (case t => intro _; with_unfolding_all rfl); (case z => rw [sizeLine_eq]; omega)); intro D' h' F' N' l1))
local macro_rules | `(tactic| walk_at "call builtin:len") => `(tactic| (first | (refine len_txt (by omega) ?_; intro _ _)))
local macro_rules | `(tactic| walk_at "InvEndN") => `(tactic| (k_here; refine hold ?_))
local macro_rules | `(tactic| walk_at "binaryOp Add str str") => `(tactic| (refine add_txt (by omega) ?_; intro _ _))
local macro_rules | `(tactic| walk_at "call builtin:list.append") => `(tactic| (k_here; refine hold ?_))
local macro_rules | `(tactic| walk_at "subscriptTail Name Name ref int") => `(tactic| (k_here; refine hold ?_))
local macro_rules | `(tactic| walk_at "isTrue BoolOp") => `(tactic| (k_here; (fail_if_success (with_reducible show wpAny _ _ _ (Mid _ _ _ _ _ _) _ _)); refine hold ?_))
local macro_rules | `(tactic| walk_at "subscriptTail Name Constant str int") => `(tactic| (refine sub_cI (by omega) (by omega) (by omega) ?_; intro _ _))
local macro_rules | `(tactic| walk_at "compareOp NotEq str str") => `(tactic| (refine ne_one (d := 61) (by decide +kernel) ?_))
local macro_rules | `(tactic| walk_at "call ref") => `(tactic| (k_here; (first
  | ((with_reducible show wpAny _ _ (call (Value.ref 117) _) _ _ _); k_dflt (refine' con_use (con_read _ _ _ ?kx) ?k1 ?k2 ?k3 ?k4 ?k5 ?kK ?kd ?ku trivial ?_; (case kx => omega); (case k1 => k_asm); (case k2 => k_asm); (case k3 => k_asm); (case k4 => k_asm); (case k5 => k_asm); (case kK => first | exact rfl | assumption); (case kd => ktr_room); (case ku => ktr_units)))
  | ((with_reducible show wpAny _ _ (call (Value.ref 110) _) _ _ _); k_dflt (refine' con_use (con_escape _ _ _ ?kx) ?k1 ?k2 ?k3 ?k4 ?k5 ?kK ?kd ?ku trivial ?_; (case kx => omega); (case k1 => k_asm); (case k2 => k_asm); (case k3 => k_asm); (case k4 => k_asm); (case k5 => k_asm); (case kK => first | exact rfl | assumption); (case kd => ktr_room); (case ku => ktr_units)))
  | ((with_reducible show wpAny _ _ (call (Value.ref 124) _) _ _ _); k_dflt (refine' con_use (con_written _ _ _ _ _ ?kx) ?k1 ?k2 ?k3 ?k4 ?k5 ?kK ?kd ?ku trivial ?_; (case kx => rw [kk_len]; omega); (case k1 => k_asm); (case k2 => k_asm); (case k3 => k_asm); (case k4 => k_asm); (case k5 => k_asm); (case kK => first | exact rfl | assumption); (case kd => ktr_room); (case ku => ktr_units)))
  | ((with_reducible show wpAny _ _ (call (Value.ref 87) _) _ _ _); k_dflt (refine' con_use (con_decode _ _ _ ?kx ?kh) ?k1 ?k2 ?k3 ?k4 ?k5 ?kK ?kd ?ku trivial ?_; (case kx => omega); (case kh => exact fun c hc => alph_hex c ((by assumption : ∀ c ∈ _, c ∈ alph) c hc)); (case k1 => k_asm); (case k2 => k_asm); (case k3 => k_asm); (case k4 => k_asm); (case k5 => k_asm); (case kK => first | exact rfl | assumption); (case kd => ktr_room); (case ku => ktr_units)))
  | ((with_reducible show wpAny _ _ (call (Value.ref 101) _) _ _ _); k_dflt (refine' con_use (con_header _ _ _ ?kx ?kh) ?k1 ?k2 ?k3 ?k4 ?k5 ?kK ?kd ?ku trivial ?_; (case kx => omega); (case kh => exact fun c hc => alph_hex c ((by assumption : ∀ c ∈ _, c ∈ alph) c hc)); (case k1 => k_asm); (case k2 => k_asm); (case k3 => k_asm); (case k4 => k_asm); (case k5 => k_asm); (case kK => first | exact rfl | assumption); (case kd => ktr_room); (case ku => ktr_units)))
  | ((with_reducible show wpAny _ _ (call (Value.ref 79) _) _ _ _); k_dflt (refine' con_use (con_body _ _ _ _ _ ?kx ?ky ?kh ?km) ?k1 ?k2 ?k3 ?k4 ?k5 ?kK ?kd ?ku trivial ?_; (case kx => rw [kk_len]; omega); (case ky => rw [kk_len]; omega); (case kh => exact kk_lt _ (by assumption)); (case km => assumption); (case k1 => k_asm); (case k2 => k_asm); (case k3 => k_asm); (case k4 => k_asm); (case k5 => k_asm); (case kK => first | exact rfl | assumption); (case kd => ktr_room); (case ku => ktr_units)))); intro t9 h9 tk9 F9 N9; (try dsimp only); (try k_fold)))
local macro_rules | `(tactic| walk_at "eval BoolOp") => `(tactic| (k_here; (fail_if_success (fail_if_success (with_reducible rename (∀ c ∈ Array.toList _, c ∈ alph) => hX9))); (fail_if_success (with_reducible show wpAny _ _ _ (Mid _ _ _ _ _ _) _ _)); refine hold ?_))
local macro_rules | `(tactic| walk_at "compareOp NotIn str str") => `(tactic| (refine notin_us (by decide +kernel) ?_))
local macro_rules | `(tactic| walk_at "compareOp NotEq bool bool") => `(tactic| (first
  | refine ne_same ((str_dec _ _).trans (dec_law _ (by assumption) (by assumption))) ?_
  | refine ne_same ((str_dec _ _).trans (hdr_law _ (by assumption))) ?_
  | refine ne_same (body_kk _ _ (by assumption) (by assumption) (by assumption)) ?_))
local macro_rules | `(tactic| walk_at "binaryOp Add str str") => `(tactic| (refine add_txt (by show 2 + _ ≤ _; omega) ?_; intro _ _))
local macro_rules | `(tactic| walk_at "ite") => `(tactic| (k_here; (with_reducible refine ite_one ?_); intro _ _))
set_option maxRecDepth 100000 in
set_option maxHeartbeats 0 in
theorem law_holds : PySem.Challenge.rw_dm5005_01.Holds := Mine.hd (by
  w_strict (k_go0; (all_goals try k_fold); k_steps)
  all_goals first
    | exact int_mid (by with_reducible assumption)
    | exact sgn_mid (by decide +kernel)
    | exact sgn_midL (by decide +kernel) (by assumption)
    | exact (no_list (by with_reducible assumption) (by with_reducible assumption)).elim
    | skip
  rename_i fst ut1 ht1 kt1 ht2 snd ut2 ht3 kt2 ht4 c1 uu1 kk1 hc1 c2 uu2 kk2 hc2 c3 uu3 kk3 hc3 lS hA1 lq hA2 tkA hA3 lT hA4 ltST hA5 FA NA hA6 tkB tB1 tB2 tB3 rgX FX NX keepX
  refine Hold.mk ?_
  clear FA NA
  obtain ⟨ml, hml, hm⟩ := len_ml fst
  rw [hml] at FX
  with_unfolding_all refine' loop_rangeF (σ := Array Value × Nat) (fun c => (lT, W.listOf c.1 c.2) :: _) (fun _ => []) [Str.ofString "text", Str.ofString "sign"] (fun i c => Pcs c.1 (lev [61, c1, c2, c3] i)) (#[Value.str (Str.ofString "") _], 0) (by rfl) rgX (by decide +kernel) (n := 3) (by decide +kernel) FX NX ?hk ?hj ?turnA ?doneA
  case hk => exact fun p hp => nomatch hp
  case hj => exact ⟨[Str.ofString ""], .cons _ _ .nil, by show [(Str.ofString "").cps.toList] = [[]]; decide +kernel⟩
  case turnA =>
    intro i ti c u h tk own hi hne hJ F1 N1
    obtain ⟨cs, cn⟩ := c
    dsimp only [kstB] at F1
    dsimp only at hJ
    clear FX NX rgX keepX
    have hlt : ∀ p ∈ (lT, W.listOf cs cn) :: (lS, W.listOf #[Value.str (Str.ofString "=") _, Value.str ⟨#[c1]⟩ uu1, Value.str ⟨#[c2]⟩ uu2, Value.str ⟨#[c3]⟩ uu3] 0) :: own, p.1 < h.objs.size := fun p hp => Heap.lt_size (N1 p hp).1
    have hcs : cs.size ≤ 85 := by rw [pcs_size hJ]; exact lev_bound _ rfl _ (by omega)
    (try k_fold)
    w_strict k_steps
    refine Hold.mk ?_
    with_reducible rename Fr _ _ _ _ => lF'
    with_reducible rename News _ _ _ _ => lN'
    dsimp only at lN'
    rw [show slicePick cs none none none = cs.toList.toArray from (slicePick_all cs).trans (Array.toArray_toList (xs := cs)).symm] at lN'
    obtain ⟨ts, q1, q2⟩ := hJ
    have hJ : Pcs cs (lev [61, c1, c2, c3] i) := ⟨ts, q1, q2⟩
    with_unfolding_all refine' loop_strsG (σ := Array Value × Nat) (fun c => (lT, W.listOf c.1 c.2) :: _) (fun _ => []) [Str.ofString "sign"] (fun pre c => Pcs c.1 (lev [61, c1, c2, c3] i ++ ((pre.map (·.cps.toList)).filter fun t => decide (t.length = i)).flatMap fun t => [61, c1, c2, c3].map fun c => t ++ [c]) ∧ c.1.size ≤ cs.size + 4 * pre.length) (cs, cn) (by rfl) (List.Mem.head _) q1 lF' lN' (fun p hp => List.Mem.tail _ hp) (fun p hp => Nat.ne_of_lt (Nat.lt_succ_of_lt (hlt p hp))) ?hk ?hj ?turnB ?doneB
    case hk => exact fun p hp => nomatch hp
    case hj => exact ⟨by simpa using hJ, Nat.le_add_right _ _⟩
    case turnB =>
      intro pre y post ty c u2 h2 tk2 own2 he hoff hJ2 ha F2 N2
      obtain ⟨ds, dn⟩ := c
      obtain ⟨hJ3, hJ4⟩ := hJ2
      dsimp only [kstB] at F2
      dsimp only at hJ3 hJ4
      clear lF' lN'
      have hyl : y.length ≤ 3 := by
        have : y.cps.toList ∈ lev [61, c1, c2, c3] i := by rw [← q2, he]; simp
        have := (lev_mem _ i _ this).1
        rw [Array.length_toList] at this
        show y.cps.size ≤ 3
        omega
      have htl : ts.length ≤ 85 := by have := q1.length; rw [Array.length_toList] at this; omega
      have hpl : pre.length ≤ 85 := by rw [he] at htl; simp at htl; omega
      have hds : ds.size ≤ 500 := by omega
      (try k_fold)
      w_strict k_steps
      · refine Hold.mk ?_
        with_reducible rename Fr _ _ _ _ => lF'
        with_reducible rename News _ _ _ _ => lN'
        with_reducible rename ((_ : Nat) : Int) = _ => hyi
        with_unfolding_all refine' loop_strsF (σ := Array Value × Nat) (fun c => (lT, W.listOf c.1 c.2) :: _) (fun _ => []) [] (fun pr c => Pcs c.1 ((lev [61, c1, c2, c3] i ++ ((pre.map (·.cps.toList)).filter fun t => decide (t.length = i)).flatMap fun t => [61, c1, c2, c3].map fun c => t ++ [c]) ++ pr.map fun z => y.cps.toList ++ z.cps.toList) ∧ c.1.size ≤ ds.size + pr.length) (ds, dn) (by rfl) (fun c => List.Mem.tail _ (List.Mem.head _)) (.cons (Str.ofString "=") _ (.cons ⟨#[c1]⟩ _ (.cons ⟨#[c2]⟩ _ (.cons ⟨#[c3]⟩ _ .nil)))) lF' lN' ?hk ?hj ?turnC ?doneC
        case hk => exact fun p hp => nomatch hp
        case hj => exact ⟨by simpa using hJ3, Nat.le_add_right _ _⟩
        case turnC =>
          intro pr z po tz c u3 h3 tk3 own3 he3 hne3 hJ5 F3 N3
          obtain ⟨es, en⟩ := c
          obtain ⟨hJ6, hJ7⟩ := hJ5
          dsimp only [kstB] at F3
          dsimp only at hJ6 hJ7
          clear lF' lN'
          obtain ⟨hz, hpr⟩ := one_signs he3
          have hes : es.size ≤ 1000 := by omega
          (try k_fold)
          w_strict k_steps
          refine Hold.mk ?_
          with_reducible rename Fr _ _ _ _ => lF'
          with_reducible rename News _ _ _ _ => lN'
          with_unfolding_all refine' append_led lF' lN' ?off ?sz ?_
          case sz => exact Nat.le_trans hes (by decide)
          case off =>
            intro p hp
            have hp : p ∈ (((lS, _) :: own) ++ own2) ++ own3 := hp
            rcases List.mem_append.mp hp with hp | hp
            · rcases List.mem_append.mp hp with hp | hp
              · rcases List.mem_cons.mp hp with rfl | hp
                · exact Nat.ne_of_lt ltST
                · exact (hne (lT, _) (List.Mem.head _) p hp).symm
              · exact hoff p hp lT (List.Mem.head _)
            · exact (hne3 (lT, _) (List.Mem.head _) p hp).symm
          intro h9 k9 F9 N9
          clear lF' lN'
          (try dsimp only)
          (try k_fold)
          w_strict k_steps
          with_reducible rename Fr _ _ _ _ => lF'
          with_reducible rename News _ _ _ _ => lN'
          with_unfolding_all refine' free_end lF' lN' hne3 ?hr ⟨?hp1, ?hp2⟩
          case hr => kst_same
          case hp1 => rw [List.map_append, List.map_singleton, ← List.append_assoc]; exact hJ6.push _ _ (by rw [Str.cps_append, Array.toList_append])
          case hp2 => rw [List.length_append, List.length_singleton]; show (Array.push es _).size ≤ ds.size + (pr.length + 1); rw [Array.size_push]; omega
        case doneC =>
          intro c u3 h3 tk3 hJ5 F3 N3
          obtain ⟨es, en⟩ := c
          obtain ⟨hJ6, hJ7⟩ := hJ5
          dsimp only [kstB] at F3
          dsimp only at hJ6 hJ7
          clear lF' lN'
          (try k_fold)
          w_strict k_steps
          refine Hold.mk ?_
          with_reducible rename Fr _ _ _ _ => lF'
          with_reducible rename News _ _ _ _ => lN'
          have hyl2 : y.cps.toList.length = i := by rw [Array.length_toList]; show y.length = i; omega
          with_unfolding_all refine' kst_endA lF' lN' rfl ?hr ⟨?hp1, ?hp2⟩
          case hr => kst_same
          case hp1 => rw [pick_yes _ _ _ _ hyl2, ← List.append_assoc, ← signs_map]; exact hJ6
          case hp2 => rw [List.length_append, List.length_singleton]; have : es.size ≤ ds.size + 4 := hJ7; show es.size ≤ _; omega
      · refine Hold.mk ?_
        with_reducible rename Fr _ _ _ _ => lF'
        with_reducible rename News _ _ _ _ => lN'
        with_reducible rename ((_ : Nat) : Int) ≠ _ => hyi
        have hyl2 : y.cps.toList.length ≠ i := by rw [Array.length_toList]; show y.length ≠ i; omega
        with_unfolding_all refine' kst_endA lF' lN' ha ?hr ⟨?hp1, ?hp2⟩
        case hr => kst_same
        case hp1 => rw [pick_no _ _ _ _ hyl2]; exact hJ3
        case hp2 => rw [List.length_append, List.length_singleton]; show ds.size ≤ _; omega
    case doneB =>
      intro c u2 h2 tk2 hJ2 F2 N2
      obtain ⟨ds, dn⟩ := c
      dsimp only [kstB] at F2
      clear lF' lN'
      (try k_fold)
      w_strict k_steps
      with_reducible rename Fr _ _ _ _ => lF'
      with_reducible rename News _ _ _ _ => lN'
      dsimp only at hJ2
      rw [q2] at hJ2
      with_unfolding_all refine' free_end lF' lN' hne ?hr ?hp
      case hr => kst_same
      case hp => exact hJ2.1
  case doneA =>
    intro c u h tk hJ F1 N1
    obtain ⟨cs, cn⟩ := c
    dsimp only [kstB] at F1
    dsimp only at hJ
    clear FX NX rgX keepX
    (try k_fold)
    w_strict k_steps
    refine Hold.mk ?_
    with_reducible rename IsRange _ _ _ _ _ _ _ _ => rgX
    with_reducible rename Fr _ _ _ _ => lF'
    with_reducible rename News _ _ _ _ => lN'
    with_unfolding_all refine' loop_rangeF (σ := MSt) (fun c => (c.sA, W.listOf #[Value.int c.a c.ta, Value.int c.b c.tb, Value.int c.c c.tc] c.n) :: [(lT, W.listOf cs cn)]) (fun c => [(Str.ofString "stays", Value.ref c.sA), (Str.ofString "walked", Value.int c.w c.tw)]) [Str.ofString "text", Str.ofString "read", Str.ofString "header", Str.ofString "written"] (fun i c => Jm i c.w c.a c.b c.c) ⟨_, 0, 0, _, 0, _, 0, _, 0, _⟩ (by rfl) rgX (by decide +kernel) (n := 85) (by decide +kernel) lF' (kst_newsOf lN' (fun p hp => (List.mem_append_left _ hp : p ∈ [_, _] ++ [_]))) ?hk ?hj ?turnM ?doneM
    case hk => kst_all
    case hj => exact jm_0
    case turnM =>
      intro i ti c u2 h2 tk2 own hi hne hJ2 F1 N1
      obtain ⟨sA, sn, va, ta, vb, tb, vc, tc, vw, tw⟩ := c
      dsimp only [kstB] at F1
      dsimp only at hJ2 N1
      clear lF' lN' rgX
      obtain ⟨z, hz⟩ := get_lev (c1 := c1) (c2 := c2) (c3 := c3) hi
      (try k_fold)
      w_strict k_steps
      refine Hold.mk ?_
      with_reducible rename News _ _ _ _ => lN'
      refine item_pcs (News.isList lN' (List.Mem.tail _ (List.Mem.head _))) hJ hz (by omega) ?_
      intro y ty hy
      subst hy
      obtain ⟨hzl, hza⟩ := lev_alph hc1 hc2 hc3 hz
      have hyl : y.length ≤ 3 := by rw [Array.length_toList] at hzl; exact hzl
      w_strict k_steps
      refine Hold.mk ?_
      with_reducible rename Fr _ _ _ _ => lF'
      with_reducible rename News _ _ _ _ => lN'
      refine cut_mid (fun b : Bool => b = true → y.cps.toList.length = 3 ∧ y.cps.toList[0]? ≠ some 61) lF' lN' ?cutA ?goA
      case cutA =>
        w_strict k_steps
        all_goals first
          | exact Mid.mk' lF' lN' (fun h => absurd h Bool.false_ne_true)
          | exact Mid.mk' lF' lN' (fun _ => skip_fact (by assumption) (by assumption))
      case goA =>
        intro q h7 k7 hq F7 N7
        clear lF' lN'
        (try dsimp only)
        cases q
        case true =>
          rw [if_pos rfl]
          have hq2 := hq rfl
          clear hq
          w_strict k_steps
          with_reducible rename Fr _ _ _ _ => lF'
          with_reducible rename News _ _ _ _ => lN'
          with_unfolding_all refine' mst_end ⟨sA, sn, va, ta, vb, tb, vc, tc, vw, tw⟩ ⟨sA, sn, va, ta, vb, tb, vc, tc, vw, tw⟩ lF' lN' (fun p hp => List.mem_append_left _ hp) (fun p hp => List.mem_append_right _ hp) hne (.inl rfl) ?hk ?hr ?hp
          case hk => kst_all
          case hr => kst_same
          case hp => exact jm_skip hJ2 hz hq2.1 hq2.2
        case false =>
          rw [if_neg Bool.false_ne_true]
          clear hq
          w_strict k_steps
          refine Hold.mk ?_
          with_reducible rename Fr _ _ _ _ => lF'
          with_reducible rename News _ _ _ _ => lN'
          refine cut_mid (fun v : Value => v = .bool (hdrL y.cps.toList)) lF' lN' ?cutB ?goB
          case cutB =>
            w_strict k_steps
            all_goals (with_reducible rename Fr _ _ _ _ => lF')
            all_goals (with_reducible rename News _ _ _ _ => lN')
            all_goals first
              | (with_unfolding_all refine' Mid.mk' lF' lN' ?_; exact hdrv_yes (decide_eq_true (by assumption)))
              | (with_unfolding_all refine' Mid.mk' lF' lN' ?_; exact hdrv_no (decide_eq_false (by assumption)))
          case goB =>
            intro v8 h8 k8 hv8 F8 N8
            clear lF' lN'
            subst hv8
            w_strict k_steps
            refine Hold.mk ?_
            with_reducible rename Fr _ _ _ _ => lF'
            with_reducible rename News _ _ _ _ => lN'
            refine cut_mid (fun b : Bool => b = false) lF' lN' ?cutC ?goC
            case cutC =>
              w_strict k_steps
              with_reducible rename Fr _ _ _ _ => lF'
              with_reducible rename News _ _ _ _ => lN'
              with_unfolding_all exact Mid.mk' lF' lN' rfl
            case goC =>
              intro b9 h9 k9 hb9 F9 N9
              clear lF' lN'
              subst hb9
              w_strict k_steps
              with_reducible rename Fr _ _ _ _ => lF'
              with_reducible rename News _ _ _ _ => lN'
              with_reducible rename (∀ p ∈ ([(sA, _), (lT, _)] : List (Addr × Obj)) ++ own, p.1 < _) => ltA
              with_unfolding_all refine' mst_new ⟨sA, sn, va, ta, vb, tb, vc, tc, vw, tw⟩ ⟨_, _, _, _, _, _, _, _, vw + 1, _⟩ lF' lN' hne ltA ?hk ?hr ?hp
              case hk => kst_all
              case hr => kst_same
              case hp => (try dsimp only); rw [kk_list]; exact jm_turn hJ2 hz hc1 ml hm
    case doneM =>
      intro c u2 h2 tk2 hJ2 F1 N1
      obtain ⟨sA, sn, va, ta, vb, tb, vc, tc, vw, tw⟩ := c
      dsimp only [kstB] at F1
      dsimp only at hJ2 N1
      clear lF' lN' rgX
      have hJ3 := jm_end hJ2
      (try dsimp only)
      w_strict k_steps)
end Mine
end
theorem PySem.Challenge.cw_dm5005_01_holds : PySem.Challenge.rw_dm5005_01.Holds :=
  Mine.law_holds
