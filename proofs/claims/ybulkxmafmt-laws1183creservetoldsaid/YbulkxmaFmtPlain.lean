/-
  THE PLAIN LAW: what zzs1183cbuild lays out, as a function on lists; no Go in sight.
-/
namespace Go.Proofs.YbulkxmaFmt

/-- a check as the law is handed it -/
structure Chk where
  host : Int
  id : Int
  key : ByteArray
  delay : ByteArray
  lls : Int
  mt : Int

def Chk.blank : Chk := ⟨0, 0, ⟨#[]⟩, ⟨#[]⟩, 0, 0⟩

/-- a host of a configuration: its name's span, its checks' span, whether it is monitored -/
structure Hst where
  ns : Nat
  ne : Nat
  cs : Nat
  ce : Nat
  mon : Bool

/-- a check of a configuration: its key's span ks .. ke, its delay's ke .. de -/
structure Ck where
  id : Int
  ks : Nat
  ke : Nat
  de : Nat
  lls : Int
  mt : Int

structure St where
  b : List UInt8
  hosts : List Hst
  checks : List Ck

def nameOf (i : Int) : List UInt8 := if i = 0 then [97] else if i = 1 then [98] else if i = 2 then [99] else if i = 3 then [100] else [101]

theorem nameOf_len (i : Int) : (nameOf i).length = 1 := by
  unfold nameOf
  split
  · rfl
  · split
    · rfl
    · split
      · rfl
      · split <;> rfl

def Chk.klen (x : Chk) : Nat := x.key.data.toList.length
def Chk.dlen (x : Chk) : Nat := x.delay.data.toList.length
theorem Chk.klen_eq (x : Chk) : x.klen = x.key.size := rfl
theorem Chk.dlen_eq (x : Chk) : x.dlen = x.delay.size := rfl

def St.chk (s : St) (x : Chk) : St :=
  { s with b := s.b ++ x.key.data.toList ++ x.delay.data.toList, checks := s.checks ++ [⟨x.id, s.b.length, s.b.length + x.klen, s.b.length + x.klen + x.dlen, x.lls, x.mt⟩] }

def isMine (h : Nat) (x : Chk) : Bool := decide (x.host % 4 = (h : Int))

def St.step (h : Nat) (s : St) (x : Chk) : St := if isMine h x then s.chk x else s
def St.inner (h : Nat) (s : St) (xs : List Chk) : St := xs.foldl (St.step h) s
def St.named (h : Nat) (s : St) : St := { s with b := s.b ++ nameOf h }
def St.host (p m : Nat → Bool) (xs : List Chk) (s : St) (h : Nat) : St :=
  if p h then
    { (s.named h).inner h xs with hosts := s.hosts ++ [⟨s.b.length, s.b.length + 1, s.checks.length, ((s.named h).inner h xs).checks.length, m h⟩] }
  else s
def St.build (p m : Nat → Bool) (xs : List Chk) : Nat → St
  | 0 => ⟨[], [], []⟩
  | h + 1 => (St.build p m xs h).host p m xs h

def mine (h : Nat) (xs : List Chk) : List Chk := xs.filter (isMine h)
def expd (p : Nat → Bool) (xs : List Chk) (h : Nat) : List Chk := if p h then mine h xs else []

/-- the text of a host's checks -/
def flat (l : List Chk) : List UInt8 := l.flatMap fun x => x.key.data.toList ++ x.delay.data.toList
/-- the checks of a host as the configuration holds them, from a place of the text on -/
def cks : Nat → List Chk → List Ck
  | _, [] => []
  | o, x :: l => ⟨x.id, o, o + x.klen, o + x.klen + x.dlen, x.lls, x.mt⟩ :: cks (o + x.klen + x.dlen) l

theorem cks_len (o : Nat) (l : List Chk) : (cks o l).length = l.length := by
  induction l generalizing o with
  | nil => rfl
  | cons x l ih => simp [cks, ih]

theorem cks_append (o : Nat) (l l' : List Chk) : cks o (l ++ l') = cks o l ++ cks (o + (flat l).length) l' := by
  induction l generalizing o with
  | nil => simp [cks, flat]
  | cons x l ih =>
    simp only [List.cons_append, cks, ih]
    congr 3
    simp [flat, Chk.klen, Chk.dlen]
    omega

theorem flat_append (l l' : List Chk) : flat (l ++ l') = flat l ++ flat l' := by simp [flat]
theorem flat_one (x : Chk) : flat [x] = x.key.data.toList ++ x.delay.data.toList := by simp [flat]

theorem inner_eq (h : Nat) (s : St) (xs : List Chk) : s.inner h xs = ⟨s.b ++ flat (mine h xs), s.hosts, s.checks ++ cks s.b.length (mine h xs)⟩ := by
  induction xs generalizing s with
  | nil => simp [St.inner, mine, flat, cks]
  | cons x xs ih =>
    have e : s.inner h (x :: xs) = (St.step h s x).inner h xs := rfl
    rw [e, ih]
    unfold St.step
    by_cases hm : isMine h x = true
    · have em : mine h (x :: xs) = x :: mine h xs := by simp [mine, hm]
      rw [if_pos hm, em]
      simp [St.chk, cks, flat, Chk.klen, Chk.dlen, List.append_assoc, Nat.add_assoc]
    · have em : mine h (x :: xs) = mine h xs := by simp [mine, hm]
      rw [if_neg hm, em]

theorem inner_snoc (h : Nat) (s : St) (xs : List Chk) (x : Chk) : s.inner h (xs ++ [x]) = St.step h (s.inner h xs) x := by
  simp [St.inner]

theorem mine_snoc_yes {h : Nat} {xs : List Chk} {x : Chk} (hm : isMine h x = true) : mine h (xs ++ [x]) = mine h xs ++ [x] := by simp [mine, hm]
theorem mine_snoc_no {h : Nat} {xs : List Chk} {x : Chk} (hm : isMine h x = false) : mine h (xs ++ [x]) = mine h xs := by simp [mine, hm]

theorem build_no {p m : Nat → Bool} {xs : List Chk} {h : Nat} (hp : p h = false) : St.build p m xs (h + 1) = St.build p m xs h := by
  simp [St.build, St.host, hp]

theorem build_yes {p m : Nat → Bool} {xs : List Chk} {h : Nat} (hp : p h = true) : St.build p m xs (h + 1) =
    ⟨(St.build p m xs h).b ++ nameOf h ++ flat (mine h xs),
     (St.build p m xs h).hosts ++ [⟨(St.build p m xs h).b.length, (St.build p m xs h).b.length + 1, (St.build p m xs h).checks.length, (St.build p m xs h).checks.length + (mine h xs).length, m h⟩],
     (St.build p m xs h).checks ++ cks ((St.build p m xs h).b.length + 1) (mine h xs)⟩ := by
  show (St.build p m xs h).host p m xs h = _
  unfold St.host
  rw [if_pos hp, inner_eq]
  simp [St.named, nameOf_len, cks_len]

/-! ### bounds -/
theorem flat_le (l : List Chk) (hl : ∀ x ∈ l, x.klen ≤ 65536 ∧ x.dlen ≤ 65536) : (flat l).length ≤ l.length * 131072 := by
  induction l with
  | nil => simp [flat]
  | cons x l ih =>
    have := ih (fun y hy => hl y (List.mem_cons_of_mem _ hy))
    have hx := hl x (List.mem_cons_self ..)
    simp [flat, Chk.klen, Chk.dlen] at this hx ⊢
    omega

theorem mine_le (h : Nat) (xs : List Chk) : (mine h xs).length ≤ xs.length := List.length_filter_le ..
theorem mine_sub {h : Nat} {xs : List Chk} {x : Chk} (hx : x ∈ mine h xs) : x ∈ xs := (List.mem_filter.1 hx).1

theorem build_bounds (p m : Nat → Bool) (xs : List Chk) (K : Nat) (hK : ∀ h, (flat (mine h xs)).length + 1 ≤ K) (h : Nat) :
    (St.build p m xs h).b.length ≤ h * K ∧ (St.build p m xs h).checks.length ≤ h * xs.length ∧ (St.build p m xs h).hosts.length ≤ h := by
  induction h with
  | zero => simp [St.build]
  | succ h ih =>
    obtain ⟨i1, i2, i3⟩ := ih
    have hk := hK h
    have h2 := mine_le h xs
    cases hp : p h with
    | false =>
      rw [build_no hp, Nat.succ_mul, Nat.succ_mul]
      omega
    | true =>
      rw [build_yes hp, Nat.succ_mul, Nat.succ_mul]
      simp [nameOf_len, cks_len]
      omega

theorem flat_mine_le (xs : List Chk) (hl : xs.length ≤ 1024) (hx : ∀ x ∈ xs, x.klen ≤ 65536 ∧ x.dlen ≤ 65536) (h : Nat) : (flat (mine h xs)).length + 1 ≤ 134217729 := by
  have h1 := flat_le (mine h xs) (fun x hm => hx x (mine_sub hm))
  have h2 := mine_le h xs
  omega

theorem take_sub {xs : List Chk} {k : Nat} {x : Chk} (hx : x ∈ xs.take k) : x ∈ xs := List.mem_of_mem_take hx

theorem inner_bounds (h : Nat) (s : St) (ys : List Chk) (hl : ys.length ≤ 1024) (hx : ∀ x ∈ ys, x.klen ≤ 65536 ∧ x.dlen ≤ 65536) :
    ((s.named h).inner h ys).b.length ≤ s.b.length + 134217729 ∧ ((s.named h).inner h ys).checks.length ≤ s.checks.length + 1024 ∧ ((s.named h).inner h ys).hosts = s.hosts ∧ (mine h ys).length ≤ 1024 := by
  have h1 := flat_mine_le ys hl hx h
  have h2 := mine_le h ys
  rw [inner_eq]
  simp [St.named, nameOf_len, cks_len]
  omega

/-! ### what the whole holds of one host -/
theorem build_more (p m : Nat → Bool) (xs : List Chk) (h d : Nat) : (St.build p m xs h).b <+: (St.build p m xs (h + d)).b ∧ (St.build p m xs h).checks <+: (St.build p m xs (h + d)).checks := by
  induction d with
  | zero => exact ⟨List.prefix_refl _, List.prefix_refl _⟩
  | succ d ih =>
    show _ <+: (St.build p m xs ((h + d) + 1)).b ∧ _ <+: (St.build p m xs ((h + d) + 1)).checks
    cases hp : p (h + d) with
    | false => rw [build_no hp]; exact ih
    | true =>
      rw [build_yes hp]
      refine ⟨ih.1.trans ?_, ih.2.trans ?_⟩
      · rw [List.append_assoc]; exact List.prefix_append ..
      · exact List.prefix_append ..

/-- the hosts that are there, in order -/
def ids (p : Nat → Bool) : Nat → List Nat
  | 0 => []
  | h + 1 => if p h then ids p h ++ [h] else ids p h

def recOf (p m : Nat → Bool) (xs : List Chk) (h : Nat) : Hst :=
  ⟨(St.build p m xs h).b.length, (St.build p m xs h).b.length + 1, (St.build p m xs h).checks.length, (St.build p m xs h).checks.length + (mine h xs).length, m h⟩

theorem hosts_eq (p m : Nat → Bool) (xs : List Chk) (h : Nat) : (St.build p m xs h).hosts = (ids p h).map (recOf p m xs) := by
  induction h with
  | zero => rfl
  | succ h ih =>
    cases hp : p h with
    | false => rw [build_no hp, ih]; simp [ids, hp]
    | true => rw [build_yes hp, ih]; simp [ids, hp, recOf]

theorem ids_lt (p : Nat → Bool) (h : Nat) : ∀ i ∈ ids p h, i < h ∧ p i = true := by
  induction h with
  | zero => simp [ids]
  | succ h ih =>
    intro i hi
    cases hp : p h with
    | false => simp [ids, hp] at hi; have := ih i hi; exact ⟨by omega, this.2⟩
    | true =>
      simp [ids, hp] at hi
      rcases hi with hi | rfl
      · have := ih i hi; exact ⟨by omega, this.2⟩
      · exact ⟨by omega, hp⟩

theorem ids_mem (p : Nat → Bool) (h i : Nat) (hi : i < h) (hp : p i = true) : i ∈ ids p h := by
  induction h with
  | zero => omega
  | succ h ih =>
    by_cases e : i = h
    · subst e; simp [ids, hp]
    · have := ih (by omega)
      simp only [ids]
      split
      · simp [this]
      · exact this

theorem ids_sorted (p : Nat → Bool) (h : Nat) : (ids p h).Pairwise (· < ·) := by
  induction h with
  | zero => simp [ids]
  | succ h ih =>
    cases hp : p h with
    | false => simpa [ids, hp] using ih
    | true =>
      simp only [ids, hp, if_true]
      rw [List.pairwise_append]
      refine ⟨ih, by simp, fun a ha b hb => ?_⟩
      simp at hb
      subst hb
      exact (ids_lt p b a ha).1

theorem ids_len (p : Nat → Bool) (h : Nat) : (ids p h).length ≤ h := by
  induction h with
  | zero => simp [ids]
  | succ h ih =>
    simp only [ids]
    split
    · simp; omega
    · omega

/-- the whole text and the whole table of checks, around one host that is there -/
theorem around (p m : Nat → Bool) (xs : List Chk) (n h : Nat) (hh : h < n) (hp : p h = true) : ∃ r1 r3,
    (St.build p m xs n).b = (St.build p m xs h).b ++ nameOf h ++ flat (mine h xs) ++ r1 ∧
    (St.build p m xs n).checks = (St.build p m xs h).checks ++ cks ((St.build p m xs h).b.length + 1) (mine h xs) ++ r3 := by
  obtain ⟨e1, e3⟩ := build_more p m xs (h + 1) (n - (h + 1))
  rw [show h + 1 + (n - (h + 1)) = n by omega, build_yes hp] at e1 e3
  obtain ⟨r1, e1⟩ := e1
  obtain ⟨r3, e3⟩ := e3
  exact ⟨r1, r3, e1.symm, e3.symm⟩

end Go.Proofs.YbulkxmaFmt
