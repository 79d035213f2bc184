import PyProof.Rows.All
import Wide.All
import OpenK.AllK
import Wide.FinOn
import PySem.Challenge.RW_pe0132_01
open PySem PySem.W PySem.Calls PyProof.Rows
set_option Elab.async false

namespace Mine
set_option maxRecDepth 100000
set_option maxHeartbeats 8000000
open_top hd for PySem.Challenge.rw_pe0132_01
end Mine

namespace Mine
set_option maxRecDepth 100000

/-- the end of a def that changes nothing that stood before its call -/
structure PEnd (s : Shared) (P : Value → Heap → Prop) (fl : Flow) (s' : Shared) : Prop where
  out : ∃ h' tk L' m', s' = { s with heap := h', toks := tk } ∧ Fr s.heap L' h' m' ∧ P (match fl with | .ret v => v | _ => .none) h'

theorem PEnd.intro {s s₁ : Shared} {P : Value → Heap → Prop} {v : Value} {h' : Heap} {tk : Nat} {L' : Addr} {m' : Str → Option Value} (F : Fr s.heap L' h' m') (hP : P v h') (hs : { s₁ with heap := h', toks := tk } = { s with heap := h', toks := tk } := by rfl) :
    PEnd s P (.ret v) { s₁ with heap := h', toks := tk } := ⟨⟨h', tk, L', m', hs, F, hP⟩⟩

section
variable {prog : Program} {w : World} {A A₀ : Around} {E : Value → Shared → Prop} {s : Shared} {K : Frag} {L : Addr} {h₀ base : Heap} {m mg mb : Str → Option Value} {p : Program} {loose : List Str} {mean : ExcName → Option Value} {Q : Value → Shared → Prop}

theorem pure_enter {P : Value → Heap → Prop} {env : Env} {outer : List Env} {name qual : Str} {params : Arguments} {body : List Stmt} {scope : Scope} {dV kV doc pm cdv ct oc : Value} {an od : Option Addr} {osl : Array (Option Value)} {f : Addr} {vs : List Value} {binds : List (Str × Value)}
    (B : Below A₀ base outer h₀) (F : Fr h₀ L s.heap m) (X₀ : K.In h₀) (T : Top p loose mean mg mb h₀) (hA : A.frames = some (env :: outer)) (hf : env.frame = some L) (hke : env.scope.kind = .function)
    (ho : K.lookup f = some ⟨oc, od, .func (fnOf name qual params body scope dV kV doc pm an cdv ct), osl⟩) (hcd : codeIn K cdv qual = true) (hroom : A.depth < recursionLimit)
    (hbind : BindsTo s (fnOf name qual params body scope dV kV doc pm an cdv ct) ⟨vs, []⟩ binds) (hloc : ∀ y ∈ binds, scope.names.lookup y.1 = some .local)
    (h : ∀ L' h₁, Fr s.heap L' h₁ (fun y => binds.reverse.lookup y) → News s.heap L' h₁ [] → Below A base (env :: outer) s.heap → K.In s.heap → Top p loose mean mg mb s.heap →
      wpAny (model prog w) (A.deeper (envOf qual scope L' f cdv)) (execs body (envOf qual scope L' f cdv)) (PEnd s P) (fun _ _ => False) { s with heap := h₁, toks := s.toks + binds.length })
    (hco : scope.isCoroutine = false) (hgen : scope.isGenerator = false) (hk : scope.kind = .function) (hcell : ∀ x ∈ scope.names, x.2 ≠ .cell)
    (ret : ∀ v h' tk', s.heap.StaysIn h' → P v h' → Q v { s with heap := h', toks := tk' }) :
    wpAny (model prog w) A (call (.ref f) vs) Q E s := by
  obtain ⟨FG, BG, st, lv⟩ := groundX (R := fun _ _ => True) B F News.nil hA hf hke
  refine wpAny_call (codeAny_call_def (fd := fnOf name qual params body scope dV kV doc pm an cdv ct) (body := body) (binds := binds) hroom (F.keep _ _ (X₀ _ _ ho)) rfl (T.nolimit.keeps F.keep) (codeRec_of (X₀.keeps F.keep) hcd) rfl hbind hcell hloc (fun h₁ hns hk₁ => ?_) hco hgen hk)
  refine wpAny_mono (h s.heap.objs.size h₁ ⟨hns, hk₁, Nat.le_refl _⟩ News.nil BG (X₀.keeps F.keep) (T.keeps F.keep)) (fun fl s' hl => ?_) fun _ _ y => y.elim
  obtain ⟨⟨h', tk, L', m', rfl, F', hP⟩⟩ := hl
  exact ret _ h' tk F'.keep hP
end

/-- what a call of the def at f with these values gives, whatever stands around it -/
abbrev PClaim (w : World) (mean : ExcName → Option Value) (mg mb : Str → Option Value) (f : Addr) (vs : List Value) (pre : Heap → Prop) (dn : Nat) (P : Value → Heap → Prop) : Prop :=
  ∀ (dp un : Nat) (gd : Option (List Code)) (cn : Str) (cs : Scope) (a : Addr) (ccd : Value) (cl : List (Str × Addr)) (outer : List Env) (A₀ : Around) (base h₀ : Heap) (L : Addr) (m : Str → Option Value) (s : Shared) (Q E : Value → Shared → Prop),
    Below A₀ base outer h₀ → Fr h₀ L s.heap m → (hd.heap_39 w.params).In h₀ → Top hd.view_39 (looseW hd.view_39 []) mean mg mb h₀ → cs.kind = .function → pre s.heap →
    dp + dn < recursionLimit → un + 8 * dn < cLine →
    (∀ v h' tk', s.heap.StaysIn h' → P v h' → Q v { s with heap := h', toks := tk' }) →
    wpAny (model PySem.Challenge.rw_pe0132_01.row.prog w) (ktrTop dp un gd cn cs L a ccd cl outer) (call (.ref f) vs) Q E s

/-- the same, with what the def has made and hands on -/
structure LEnd (s : Shared) (P : List (Addr × Obj) → Value → Prop) (fl : Flow) (s' : Shared) : Prop where
  out : ∃ h' tk L' m' news, s' = { s with heap := h', toks := tk } ∧ Fr s.heap L' h' m' ∧ News s.heap L' h' news ∧ P news (match fl with | .ret v => v | _ => .none)
theorem LEnd.intro {s s₁ : Shared} {P : List (Addr × Obj) → Value → Prop} {v : Value} {h' : Heap} {tk : Nat} {L' : Addr} {m' : Str → Option Value} {news : List (Addr × Obj)} (F : Fr s.heap L' h' m') (N : News s.heap L' h' news) (hP : P news v) (hs : { s₁ with heap := h', toks := tk } = { s with heap := h', toks := tk } := by rfl) :
    LEnd s P (.ret v) { s₁ with heap := h', toks := tk } := ⟨⟨h', tk, L', m', news, hs, F, N, hP⟩⟩
section
variable {prog : Program} {w : World} {A A₀ : Around} {E : Value → Shared → Prop} {s : Shared} {K : Frag} {L : Addr} {h₀ base : Heap} {m mg mb : Str → Option Value} {p : Program} {loose : List Str} {mean : ExcName → Option Value} {Q : Value → Shared → Prop}
theorem made_enter {P : List (Addr × Obj) → Value → Prop} {env : Env} {outer : List Env} {name qual : Str} {params : Arguments} {body : List Stmt} {scope : Scope} {dV kV doc pm cdv ct oc : Value} {an od : Option Addr} {osl : Array (Option Value)} {f : Addr} {vs : List Value} {binds : List (Str × Value)}
    (B : Below A₀ base outer h₀) (F : Fr h₀ L s.heap m) (X₀ : K.In h₀) (T : Top p loose mean mg mb h₀) (hA : A.frames = some (env :: outer)) (hf : env.frame = some L) (hke : env.scope.kind = .function)
    (ho : K.lookup f = some ⟨oc, od, .func (fnOf name qual params body scope dV kV doc pm an cdv ct), osl⟩) (hcd : codeIn K cdv qual = true) (hroom : A.depth < recursionLimit)
    (hbind : BindsTo s (fnOf name qual params body scope dV kV doc pm an cdv ct) ⟨vs, []⟩ binds) (hloc : ∀ y ∈ binds, scope.names.lookup y.1 = some .local)
    (h : ∀ L' h₁, Fr s.heap L' h₁ (fun y => binds.reverse.lookup y) → News s.heap L' h₁ [] → Below A base (env :: outer) s.heap → K.In s.heap → Top p loose mean mg mb s.heap →
      wpAny (model prog w) (A.deeper (envOf qual scope L' f cdv)) (execs body (envOf qual scope L' f cdv)) (LEnd s P) (fun _ _ => False) { s with heap := h₁, toks := s.toks + binds.length })
    (hco : scope.isCoroutine = false) (hgen : scope.isGenerator = false) (hk : scope.kind = .function) (hcell : ∀ x ∈ scope.names, x.2 ≠ .cell)
    (ret : ∀ v h' tk' made, s.heap.StaysIn h' → News h₀ L h' made → P made v → Q v { s with heap := h', toks := tk' }) :
    wpAny (model prog w) A (call (.ref f) vs) Q E s := by
  obtain ⟨FG, BG, st, lv⟩ := groundX (R := fun _ _ => True) B F News.nil hA hf hke
  refine wpAny_call (codeAny_call_def (fd := fnOf name qual params body scope dV kV doc pm an cdv ct) (body := body) (binds := binds) hroom (F.keep _ _ (X₀ _ _ ho)) rfl (T.nolimit.keeps F.keep) (codeRec_of (X₀.keeps F.keep) hcd) rfl hbind hcell hloc (fun h₁ hns hk₁ => ?_) hco hgen hk)
  refine wpAny_mono (h s.heap.objs.size h₁ ⟨hns, hk₁, Nat.le_refl _⟩ News.nil BG (X₀.keeps F.keep) (T.keeps F.keep)) (fun fl s' hl => ?_) fun _ _ y => y.elim
  obtain ⟨⟨h', tk, L', m', news, rfl, F', N', hP⟩⟩ := hl
  refine ret _ h' tk news F'.keep (fun q hq => ⟨(N' q hq).1, fun e => ?_, ?_⟩) hP
  · obtain ⟨oL, _, _, hL, _⟩ := F.ns
    have := (N' q hq).2.2
    rw [e, hL] at this; cases this
  · cases e : h₀.get? q.1 with
    | none => rfl
    | some o => have := (N' q hq).2.2; rw [F.keep _ _ e] at this; cases this
end
abbrev LClaim (w : World) (mean : ExcName → Option Value) (mg mb : Str → Option Value) (f : Addr) (vs : List Value) (pre : Heap → Prop) (dn : Nat) (P : List (Addr × Obj) → Value → Prop) : Prop :=
  ∀ (dp un : Nat) (gd : Option (List Code)) (cn : Str) (cs : Scope) (a : Addr) (ccd : Value) (cl : List (Str × Addr)) (outer : List Env) (A₀ : Around) (base h₀ : Heap) (L : Addr) (m : Str → Option Value) (s : Shared) (Q E : Value → Shared → Prop),
    Below A₀ base outer h₀ → Fr h₀ L s.heap m → (hd.heap_39 w.params).In h₀ → Top hd.view_39 (looseW hd.view_39 []) mean mg mb h₀ → cs.kind = .function → pre s.heap →
    dp + dn < recursionLimit → un + 8 * dn < cLine →
    (∀ v h' tk' made, s.heap.StaysIn h' → News h₀ L h' made → P made v → Q v { s with heap := h', toks := tk' }) →
    wpAny (model PySem.Challenge.rw_pe0132_01.row.prog w) (ktrTop dp un gd cn cs L a ccd cl outer) (call (.ref f) vs) Q E s

/-- the value is this int; this bool -/
structure IsI (n : Int) (v : Value) : Prop where
  out : ∃ t, v = .int n t
theorem IsI.of {n k : Int} {t : Tok} (e : k = n) : IsI n (.int k t) := ⟨t, by rw [e]⟩

theorem Fr.stays {h₀ h h' : Heap} {L : Addr} {m : Str → Option Value} (F : Fr h₀ L h m) (k : h.StaysIn h') : Fr h₀ L h' m := by
  obtain ⟨oL, es, ep, hL, r⟩ := F.ns
  exact ⟨⟨oL, es, ep, k _ _ hL, r⟩, fun b o e => k _ _ (F.keep b o e), F.above⟩
theorem News.stays {h₀ h h' : Heap} {L : Addr} {news : List (Addr × Obj)} (N : News h₀ L h news) (k : h.StaysIn h') : News h₀ L h' news :=
  fun p hp => ⟨k _ _ (N p hp).1, (N p hp).2⟩
end Mine

namespace Mine

/-! the plain law: prices of two lists of codes -/
def low (c : Nat) : Nat := if 65 ≤ c ∧ c ≤ 90 then c + 32 else c
def sc (c d : Nat) : Int := if c = d then 0 else if low c = low d then 1 else 2
def Al (c : Nat) : Prop := c = 47 ∨ c = 97 ∨ c = 65 ∨ c = 98 ∨ c = 66
theorem Al.lt {c : Nat} (h : Al c) : c < 128 := by rcases h with h | h | h | h | h <;> omega
theorem sc_cases (c d : Nat) : c ≠ d → sc c d = 1 ∨ sc c d = 2 := by
  intro h; unfold sc; rw [if_neg h]; split <;> simp
theorem sc_self (c : Nat) : sc c c = 0 := by unfold sc; simp
theorem sc_range (c d : Nat) : 0 ≤ sc c d ∧ sc c d ≤ 2 := by
  by_cases h : c = d
  · subst h; rw [sc_self]; omega
  · rcases sc_cases c d h with e | e <;> omega
theorem sc_comm (c d : Nat) : sc c d = sc d c := by
  unfold sc
  by_cases h : c = d
  · subst h; rfl
  · have h' : d ≠ c := fun e => h e.symm
    rw [if_neg h, if_neg h']
    by_cases e : low c = low d
    · rw [if_pos e, if_pos e.symm]
    · rw [if_neg e, if_neg fun q => e q.symm]

/-- one way to turn a into b, and its price -/
inductive Ed : List Nat → List Nat → Int → Prop where
  | nil : Ed [] [] 0
  | sub {a b : List Nat} {n : Int} (c d : Nat) : Ed a b n → Ed (c :: a) (d :: b) (n + sc c d)
  | del {a b : List Nat} {n : Int} (c : Nat) : Ed a b n → Ed (c :: a) b (n + 2)
  | ins {a b : List Nat} {n : Int} (d : Nat) : Ed a b n → Ed a (d :: b) (n + 2)

/-- the least price -/
def D : List Nat → List Nat → Int
  | [], b => 2 * (b.length : Int)
  | c :: a, [] => 2 * ((c :: a).length : Int)
  | c :: a, d :: b => min (D a b + sc c d) (min (D a (d :: b) + 2) (D (c :: a) b + 2))
termination_by a b => a.length + b.length

theorem D_nil (b : List Nat) : D [] b = 2 * (b.length : Int) := by rw [D]
theorem D_nil' (a : List Nat) : D a [] = 2 * (a.length : Int) := by
  cases a with
  | nil => rw [D]
  | cons c a => rw [D]
theorem D_cons (c d : Nat) (a b : List Nat) : D (c :: a) (d :: b) = min (D a b + sc c d) (min (D a (d :: b) + 2) (D (c :: a) b + 2)) := by rw [D]

theorem ed_nilr : ∀ a : List Nat, Ed a [] (2 * (a.length : Int))
  | [] => .nil
  | c :: a => by
    have := Ed.del c (ed_nilr a)
    have e : (2 * ((c :: a).length : Int)) = 2 * (a.length : Int) + 2 := by simp; omega
    rw [e]; exact this
theorem ed_nill : ∀ b : List Nat, Ed [] b (2 * (b.length : Int))
  | [] => .nil
  | c :: b => by
    have := Ed.ins c (ed_nill b)
    have e : (2 * ((c :: b).length : Int)) = 2 * (b.length : Int) + 2 := by simp; omega
    rw [e]; exact this

theorem ed_D (a b : List Nat) : Ed a b (D a b) := by
  induction a, b using D.induct with
  | case1 b => rw [D_nil]; exact ed_nill b
  | case2 c a => rw [D_nil']; exact ed_nilr _
  | case3 c a d b h1 h2 h3 =>
    rw [D_cons]
    have k1 := Ed.sub c d h1
    have k2 := Ed.del c h2
    have k3 := Ed.ins d h3
    by_cases e1 : D a b + sc c d ≤ min (D a (d :: b) + 2) (D (c :: a) b + 2)
    · rw [Int.min_eq_left e1]; exact k1
    · rw [Int.min_eq_right (by omega)]
      by_cases e2 : D a (d :: b) + 2 ≤ D (c :: a) b + 2
      · rw [Int.min_eq_left e2]; exact k2
      · rw [Int.min_eq_right (by omega)]; exact k3

theorem D_del (c : Nat) (a b : List Nat) : D (c :: a) b ≤ D a b + 2 := by
  cases b with
  | nil => rw [D_nil', D_nil']; simp; omega
  | cons d b => rw [D_cons]; omega
theorem D_ins (d : Nat) (a b : List Nat) : D a (d :: b) ≤ D a b + 2 := by
  cases a with
  | nil => rw [D_nil, D_nil]; simp; omega
  | cons c a => rw [D_cons]; omega
theorem D_sub (c d : Nat) (a b : List Nat) : D (c :: a) (d :: b) ≤ D a b + sc c d := by rw [D_cons]; omega

theorem D_le {a b : List Nat} {n : Int} (h : Ed a b n) : D a b ≤ n := by
  induction h with
  | nil => rw [D_nil]; simp
  | sub c d _ ih => rename_i a b n _; have := D_sub c d a b; omega
  | del c _ ih => rename_i a b n _; have := D_del c a b; omega
  | ins d _ ih => rename_i a b n _; have := D_ins d a b; omega

theorem Ed.append {a b : List Nat} {n : Int} (h : Ed a b n) {a' b' : List Nat} {n' : Int} (h' : Ed a' b' n') : Ed (a ++ a') (b ++ b') (n + n') := by
  induction h with
  | nil => simpa using h'
  | sub c d _ ih => have := Ed.sub c d ih; rw [Int.add_right_comm]; exact this
  | del c _ ih => have := Ed.del c ih; rw [Int.add_right_comm]; exact this
  | ins d _ ih => have := Ed.ins d ih; rw [Int.add_right_comm]; exact this

theorem Ed.rev {a b : List Nat} {n : Int} (h : Ed a b n) : Ed a.reverse b.reverse n := by
  induction h with
  | nil => exact .nil
  | sub c d _ ih =>
    have := ih.append (Ed.sub c d .nil)
    simpa using this
  | del c _ ih =>
    have := ih.append (Ed.del c .nil)
    simpa using this
  | ins d _ ih =>
    have := ih.append (Ed.ins d .nil)
    simpa using this

theorem Ed.swap {a b : List Nat} {n : Int} (h : Ed a b n) : Ed b a n := by
  induction h with
  | nil => exact .nil
  | sub c d _ ih => rw [sc_comm]; exact .sub d c ih
  | del c _ ih => exact .ins c ih
  | ins d _ ih => exact .del d ih

theorem D_rev (a b : List Nat) : D a.reverse b.reverse = D a b := by
  have h1 := D_le (ed_D a b).rev
  have h2 := D_le (ed_D a.reverse b.reverse).rev
  simp only [List.reverse_reverse] at h2
  omega
theorem D_comm (a b : List Nat) : D a b = D b a := by
  have h1 := D_le (ed_D a b).swap
  have h2 := D_le (ed_D b a).swap
  omega

theorem Ed.nonneg {a b : List Nat} {n : Int} (h : Ed a b n) : 0 ≤ n ∧ 2 * (a.length : Int) ≤ 2 * (b.length : Int) + n ∧ 2 * (b.length : Int) ≤ 2 * (a.length : Int) + n := by
  induction h with
  | nil => simp
  | sub c d _ ih => have := sc_range c d; simp only [List.length_cons]; omega
  | del c _ ih => simp only [List.length_cons]; omega
  | ins d _ ih => simp only [List.length_cons]; omega
theorem D_nonneg (a b : List Nat) : 0 ≤ D a b := (ed_D a b).nonneg.1
theorem D_size (a b : List Nat) : 2 * (a.length : Int) ≤ 2 * (b.length : Int) + D a b ∧ 2 * (b.length : Int) ≤ 2 * (a.length : Int) + D a b := (ed_D a b).nonneg.2

theorem Ed.zero {a b : List Nat} {n : Int} (h : Ed a b n) : n = 0 → a = b := by
  induction h with
  | nil => intro _; rfl
  | sub c d h ih =>
    intro e
    have h1 := h.nonneg.1
    have h2 := sc_range c d
    have e1 := ih (by omega)
    have e2 : sc c d = 0 := by omega
    have e3 : c = d := by
      by_cases q : c = d
      · exact q
      · rcases sc_cases c d q with k | k <;> omega
    rw [e1, e3]
  | del c h _ => intro e; have := h.nonneg.1; omega
  | ins d h _ => intro e; have := h.nonneg.1; omega
theorem ed_refl : ∀ a : List Nat, Ed a a 0
  | [] => .nil
  | c :: a => by have := Ed.sub c c (ed_refl a); rw [sc_self] at this; exact this
theorem D_zero (a b : List Nat) : D a b = 0 ↔ a = b := by
  constructor
  · exact fun e => (ed_D a b).zero e
  · rintro rfl
    have h1 := D_le (ed_refl a)
    have h2 := D_nonneg a a
    omega

/-- a longer list costs at most a move more -/
theorem D_back (d : Nat) : ∀ a b : List Nat, D a b ≤ D a (d :: b) + 2
  | [], b => by rw [D_nil, D_nil]; simp; omega
  | c :: a, b => by
    rw [D_cons]
    have h1 := D_del c a b
    have h2 := D_back d a b
    have h3 := sc_range c d
    omega
theorem D_back' (c : Nat) (a b : List Nat) : D a b ≤ D (c :: a) b + 2 := by
  rw [D_comm a b, D_comm (c :: a) b]; exact D_back c b a
theorem D_same (c : Nat) (a b : List Nat) : D (c :: a) (c :: b) = D a b := by
  rw [D_cons, sc_self]
  have h1 := D_back c a b
  have h2 := D_back' c a b
  omega
theorem D_pre (p a b : List Nat) : D (p ++ a) (p ++ b) = D a b := by
  induction p with
  | nil => rfl
  | cons c p ih => rw [List.cons_append, List.cons_append, D_same, ih]
theorem D_post (q a b : List Nat) : D (a ++ q) (b ++ q) = D a b := by
  rw [← D_rev, List.reverse_append, List.reverse_append, D_pre, D_rev]

/-- the row's rule, at the lists' ends -/
theorem D_snoc (a b : List Nat) (c d : Nat) : D (a ++ [c]) (b ++ [d]) = min (D a b + sc c d) (min (D a (b ++ [d]) + 2) (D (a ++ [c]) b + 2)) := by
  rw [← D_rev (a ++ [c]), ← D_rev a b, ← D_rev a (b ++ [d]), ← D_rev (a ++ [c]) b]
  simp only [List.reverse_append, List.reverse_cons, List.reverse_nil, List.nil_append, List.cons_append]
  rw [D_cons]

theorem Ed.cross {x a : List Nat} {n : Int} (h : Ed x a n) : ∀ b1 b2 : List Nat, x = b1 ++ b2 → ∃ (a1 a2 : List Nat) (n1 n2 : Int), a = a1 ++ a2 ∧ Ed b1 a1 n1 ∧ Ed b2 a2 n2 ∧ n = n1 + n2 := by
  induction h with
  | nil =>
    intro b1 b2 e
    have e' : b1 = [] ∧ b2 = [] := by simpa using e.symm
    obtain ⟨rfl, rfl⟩ := e'
    exact ⟨[], [], 0, 0, rfl, .nil, .nil, rfl⟩
  | @sub a b n c d h ih =>
    intro b1 b2 e
    cases b1 with
    | nil => exact ⟨[], d :: b, 0, n + sc c d, rfl, .nil, by rw [List.nil_append] at e; rw [← e]; exact .sub c d h, by omega⟩
    | cons c' b1 =>
      simp only [List.cons_append, List.cons.injEq] at e
      obtain ⟨rfl, e⟩ := e
      obtain ⟨a1, a2, n1, n2, rfl, k1, k2, rfl⟩ := ih b1 b2 e
      exact ⟨d :: a1, a2, n1 + sc c d, n2, rfl, .sub c d k1, k2, by omega⟩
  | @del a b n c h ih =>
    intro b1 b2 e
    cases b1 with
    | nil => exact ⟨[], b, 0, n + 2, rfl, .nil, by rw [List.nil_append] at e; rw [← e]; exact .del c h, by omega⟩
    | cons c' b1 =>
      simp only [List.cons_append, List.cons.injEq] at e
      obtain ⟨rfl, e⟩ := e
      obtain ⟨a1, a2, n1, n2, rfl, k1, k2, rfl⟩ := ih b1 b2 e
      exact ⟨a1, a2, n1 + 2, n2, rfl, .del c k1, k2, by omega⟩
  | @ins a b n d h ih =>
    intro b1 b2 e
    obtain ⟨a1, a2, n1, n2, rfl, k1, k2, rfl⟩ := ih b1 b2 e
    exact ⟨d :: a1, a2, n1 + 2, n2, rfl, .ins d k1, k2, by omega⟩

/-- every row has, behind its first place, a price that is no greater than the end's -/
theorem row_least {a b : List Nat} (ha : a ≠ []) {k : Nat} (hk : 0 < k) (hkb : k ≤ b.length) : ∃ i, i < a.length ∧ D (b.take k) (a.take (i + 1)) ≤ D b a := by
  obtain ⟨a1, a2, n1, n2, e, k1, k2, en⟩ := (ed_D b a).cross (b.take k) (b.drop k) (List.take_append_drop k b).symm
  have h1 := D_le k1
  have h2 := k2.nonneg.1
  have hpos : 0 < a.length := List.length_pos_iff.mpr ha
  by_cases hz : a1 = []
  · subst hz
    refine ⟨0, hpos, ?_⟩
    rw [D_nil'] at h1
    obtain ⟨c, r, rfl⟩ := List.exists_cons_of_ne_nil ha
    have hb : b.take k ≠ [] := by
      intro q
      have := congrArg List.length q
      rw [List.length_take, List.length_nil] at this
      omega
    obtain ⟨d, t, ht⟩ := List.exists_cons_of_ne_nil hb
    rw [ht] at h1 ⊢
    have h3 := D_sub d c t []
    rw [D_nil'] at h3
    have h4 := sc_range d c
    simp only [List.take_succ_cons, List.take_zero]
    simp only [List.length_cons] at h1
    omega
  · have hl : 0 < a1.length := List.length_pos_iff.mpr hz
    have hle : a1.length ≤ a.length := by rw [e]; simp
    refine ⟨a1.length - 1, by omega, ?_⟩
    have e2 : a1.length - 1 + 1 = a1.length := by omega
    rw [e2]
    have e3 : a.take a1.length = a1 := by rw [e]; simp
    rw [e3]
    omega

/-- the first place of a row: the code's shortcut for it gives the same -/
theorem take_snoc {l : List Nat} {i : Nat} {c : Nat} (h : l[i]? = some c) : l.take (i + 1) = l.take i ++ [c] := by
  rw [List.take_add_one, h]; rfl
end Mine

namespace Mine
set_option maxRecDepth 100000
set_option maxHeartbeats 4000000

local macro_rules | `(tactic| walk_at "mine_enter") => `(tactic| (
  k_dflt (refine' pure_enter ?k1 ?k2 ?k3 ?k5 ?kA ?kF ?kK ?k6 ?k7 ?k8 ?k9 ?kB ?kh ?c2 ?c3 ?c4 ?c5 ?kr; (case kA => exact rfl); (case kF => exact rfl); (case kK => assumption); (case k1 => k_asm); (case k2 => k_asm); (case k3 => k_asm); (case k5 => k_asm); (case k6 => k_is); (case k7 => k_is); (case k8 => ktr_room); (case k9 => exact BindsTo.of_eq rfl); (case c5 => decide); (case kB => exact locs rfl); (case c2 => exact rfl); (case c3 => exact rfl); (case c4 => exact rfl); (case kr => assumption))))

local macro_rules | `(tactic| walk_at "PEnd") => `(tactic| (refine PEnd.intro (by assumption) ?_))
theorem lower_one {c : Nat} (h : c < 128) : Txt.lower ⟨#[c]⟩ = ⟨#[low c]⟩ :=
  (by decide +kernel : ∀ c, c < 128 → Txt.lower ⟨#[c]⟩ = ⟨#[low c]⟩) c h
theorem one_eq {c d : Nat} : (({ cps := #[c] } : Str) = { cps := #[d] }) ↔ c = d := by simp

theorem in_four {c d : Nat} (hc : Al c) (hd : Al d) (hne : c ≠ d) :
    ([Str.ofString "aA", Str.ofString "Aa", Str.ofString "bB", Str.ofString "Bb"].any fun x => x == (⟨#[c]⟩ : Str) ++ ⟨#[d]⟩) = decide (sc c d = 1) := by
  rcases hc with rfl | rfl | rfl | rfl | rfl <;> rcases hd with rfl | rfl | rfl | rfl | rfl <;> first | decide +kernel | exact absurd rfl hne
theorem subst_ok {w : World} {mean : ExcName → Option Value} {mg mb : Str → Option Value} (c d : Nat) (tx ty : Tok) (hc : Al c) (hd : Al d) : PClaim w mean mg mb 28 [.str ⟨#[c]⟩ tx, .str ⟨#[d]⟩ ty] (fun _ => True) 1 (fun v _ => IsI (sc c d) v) := by
  w_on
  unfold PClaim
  k_fill
  intro dp un gd cn cs a ccd cl outer A₀ base h₀ L m s Q E B F X T hk _ hdp hun ret
  walk_at "mine_enter"
  clear B F X T ret
  intro L' h' F' N' B' X' T'
  try dsimp only
  have hcl : Str.length ⟨#[c]⟩ = 1 := rfl
  have hdl : Str.length ⟨#[d]⟩ = 1 := rfl
  k_steps
  all_goals (refine IsI.of ?_; unfold sc; simp_all [lower_one hc.lt, lower_one hd.lt])

theorem law_cost_ok {w : World} {mean : ExcName → Option Value} {mg mb : Str → Option Value} (c d : Nat) (tx ty : Tok) (hc : Al c) (hd : Al d) : PClaim w mean mg mb 99 [.str ⟨#[c]⟩ tx, .str ⟨#[d]⟩ ty] (fun _ => True) 1 (fun v _ => IsI (sc c d) v) := by
  w_on
  unfold PClaim
  k_fill
  intro dp un gd cn cs a ccd cl outer A₀ base h₀ L m s Q E B F X T hk _ hdp hun ret
  walk_at "mine_enter"
  clear B F X T ret
  intro L' h' F' N' B' X' T'
  try dsimp only
  have hcl : Str.length ⟨#[c]⟩ = 1 := rfl
  have hdl : Str.length ⟨#[d]⟩ = 1 := rfl
  k_steps
  · refine IsI.of ?_
    have e : c = d := by simp_all
    rw [e, sc_self]
  all_goals (
    have hne : c ≠ d := by intro e; simp_all
    rename _ = _ => hin
    rw [in_four hc hd hne] at hin
    refine IsI.of ?_
    rcases sc_cases c d hne with e | e <;> simp_all)
end Mine

namespace Mine

/-- a text by its signs' codes -/
abbrev S (l : List Nat) : Str := ⟨l.toArray⟩
theorem S_len (l : List Nat) : (S l).length = l.length := by simp [Str.length]
theorem S_inj {l r : List Nat} : S l = S r ↔ l = r := by simp
theorem S_beq {l r : List Nat} : (S l == S r) = decide (l = r) := by
  by_cases h : l = r
  · subst h; simp
  · have : S l ≠ S r := fun e => h (S_inj.mp e)
    simp [h]
theorem S_app (l r : List Nat) : S l ++ S r = S (l ++ r) := by
  apply Str.ext'; rw [Str.cps_append]; simp
theorem S_slash : Str.ofString "/" = S [47] := by decide +kernel

theorem slice_to {l : List Nat} {j : Int} (h0 : 0 ≤ j) (h : j ≤ l.length) : Txt.slice (S l) none (some j) = S (l.take j.toNat) := by
  show StrLaws.sliceText _ _ _ = _
  rw [StrLaws.sliceText_to ⟨h0, by simpa using h⟩]
  simp
theorem slice_from {l : List Nat} {i : Int} (h0 : 0 ≤ i) (h : i ≤ l.length) : Txt.slice (S l) (some i) none = S (l.drop i.toNat) := by
  show StrLaws.sliceText _ _ _ = _
  rw [StrLaws.sliceText_from ⟨h0, by simpa using h⟩]
  show (⟨((l.drop i.toNat).take ((l.length : Int) - i).toNat).toArray⟩ : Str) = _
  congr 2
  rw [List.take_of_length_le]
  simp; omega
theorem slice_nn (l : List Nat) : Txt.slice (S l) none none = S l := by
  show StrLaws.sliceText _ _ _ = _
  have e : StrLaws.sliceText (S l) none none = StrLaws.sliceText (S l) none (some ((S l).length : Int)) := by
    unfold StrLaws.sliceText
    rw [StrLaws.sliceIdx_none_hi]
  rw [e, StrLaws.sliceText_to ⟨by omega, by simp [Str.length]⟩]
  simp [Str.length]
theorem slice_to_neg {l : List Nat} {j : Int} (h0 : j < 0) (h : -(l.length : Int) ≤ j) : Txt.slice (S l) none (some j) = S (l.take (l.length + j).toNat) := by
  show StrLaws.sliceText _ _ _ = _
  rw [StrLaws.sliceText_to_neg h0 (by rw [S_len]; exact h)]
  simp [Str.length, Int.add_comm]
theorem slice_last (l : List Nat) : Txt.slice (S l) (some (-1)) none = S (l.drop (l.length - 1)) := by
  rcases l with _ | ⟨a, r⟩
  · decide +kernel
  · show StrLaws.sliceText _ _ _ = _
    rw [StrLaws.sliceText_from_neg (by decide) (by rw [S_len]; simp; omega)]
    simp only [S_len, List.length_cons]
    congr 2
    have e1 : (-1 + ((r.length + 1 : Nat) : Int)).toNat = r.length + 1 - 1 := by omega
    rw [e1, List.take_of_length_le]
    simp; omega
theorem item_S {l : List Nat} {k c : Nat} (h : l[k]? = some c) : Txt.item (S l) (k : Int) = ⟨#[c]⟩ :=
  item_meets (by omega) (by simpa using h)
theorem item_neg {l : List Nat} {i : Int} {k c : Nat} (h0 : i < 0) (h1 : -(l.length : Int) ≤ i) (e : (k : Int) = i + l.length) (h : l[k]? = some c) : Txt.item (S l) i = ⟨#[c]⟩ := by
  have := item_closes_neg (x := S l) (i := i) (j := (k : Int)) h0 (by rw [S_len]; exact h1) (by rw [S_len]; exact e)
  rw [beq_iff_eq] at this
  rw [this]
  simp [Array.getD_eq_getD_getElem?, h]
theorem last_slash (l : List Nat) : (Txt.slice (S l) (some (-1)) none = S [47]) ↔ l.getLast? = some 47 := by
  rw [slice_last, S_inj]
  rcases List.eq_nil_or_concat l with rfl | ⟨r, a, rfl⟩
  · simp
  · simp
theorem starts_S (l r : List Nat) : Txt.startswith (S l) (S r) = true ↔ r <+: l := by
  unfold Txt.startswith
  simp only [StrLaws.subAt_eq, S_len, List.drop_zero, Bool.and_eq_true, decide_eq_true_eq, beq_iff_eq]
  rw [List.prefix_iff_eq_take]
  constructor
  · intro h; exact h.2.symm
  · intro h
    refine ⟨?_, h.symm⟩
    have := congrArg List.length h
    rw [List.length_take] at this
    omega
end Mine

namespace Mine
set_option maxRecDepth 100000
set_option maxHeartbeats 4000000

abbrev tupObj (vs : List Value) : Obj := { cls := .type "tuple", data := .seq vs.toArray }
def subDue (x y : List Nat) : Bool := decide (x = y ∨ (if x.getLast? = some 47 then x else x ++ [47]) <+: y)
theorem tup2_eq {prog : Program} {w : World} {A : Around} {E : Value → Shared → Prop} {s : Shared} {ta tb : Addr} {ha hb x y : Str} {t1 t2 t3 t4 : Tok} {Q : Value → Shared → Prop} {h₀ : Heap} {L : Addr} {news : List (Addr × Obj)} (N : News h₀ L s.heap news)
    (h1 : (ta, tupObj [.str ha t1, .str x t2]) ∈ news) (h2 : (tb, tupObj [.str hb t3, .str y t4]) ∈ news) (o1 : PyData.strOk ha = true) (o2 : PyData.strOk x = true) (o3 : PyData.strOk hb = true) (o4 : PyData.strOk y = true) (hu : A.units + 64 < cLine)
    (h : Q (.bool (decide (ha = hb ∧ x = y))) s) : wpAny (model prog w) A (compareOp .Eq (.ref ta) (.ref tb)) Q E s := by
  have r1 := reads_tuple_at (News.get N h1) rfl rfl (.cons (.str _ _) (.cons (.str _ _) .nil))
  have r2 := reads_tuple_at (News.get N h2) rfl rfl (.cons (.str _ _) (.cons (.str _ _) .nil))
  refine eq_dataH r1 r2 (by simp [SeqAt.shaped, PyData.canLay0, PyData.canLayAll0, PyData.depth, PyData.depthAll, o1, o2, o3, o4]) (by simp [SeqAt.shaped, PyData.canLay0, PyData.canLayAll0, PyData.depth, PyData.depthAll, o1, o2, o3, o4]) hu ?_
  have e : PyData.eqv (PyData.tuple [.str ha, .str x]) (PyData.tuple [.str hb, .str y]) = decide (ha = hb ∧ x = y) := by
    simp only [PyData.eqv, PyData.eqvAll, Bool.and_true]
    by_cases e1 : ha = hb <;> by_cases e2 : x = y <;> simp [e1, e2]
  rw [e]
  exact h
local macro_rules | `(tactic| walk_at "compareOp Eq ref ref") => `(tactic| (k_here; k_dflt (refine' tup2_eq ?k1 ?k2 ?k3 ?o1 ?o2 ?o3 ?o4 ?k4 ?_; (case k1 => k_asm); (case k2 => k_mem); (case k3 => k_mem); (case o1 => k_asm); (case o2 => k_asm); (case o3 => k_asm); (case o4 => k_asm); (case k4 => ktr_units))))

theorem is_suburi_ok {w : World} {mean : ExcName → Option Value} {mg mb : Str → Option Value} (self : Value) (ta tb : Addr) (ha hb : Str) (x y : List Nat) (t1 t2 t3 t4 : Tok) (hx : x.length ≤ 20) (hy : y.length ≤ 20) (o1 : PyData.strOk ha = true) (o2 : PyData.strOk (S x) = true) (o3 : PyData.strOk hb = true) (o4 : PyData.strOk (S y) = true)
    (dp un : Nat) (gd : Option (List Code)) (cn : Str) (cs : Scope) (a : Addr) (ccd : Value) (cl : List (Str × Addr)) (outer : List Env) (A₀ : Around) (base h₀ : Heap) (L : Addr) (m : Str → Option Value) (s : Shared) (news : List (Addr × Obj)) (Q E : Value → Shared → Prop) :
    Below A₀ base outer h₀ → Fr h₀ L s.heap m → (hd.heap_39 w.params).In h₀ → News h₀ L s.heap news → Top hd.view_39 (looseW hd.view_39 []) mean mg mb h₀ → cs.kind = .function →
    (ta, tupObj [.str ha t1, .str (S x) t2]) ∈ news → (tb, tupObj [.str hb t3, .str (S y) t4]) ∈ news →
    dp + 2 < recursionLimit → un + 100 < cLine →
    (∀ v h' tk', v = .bool (decide (ha = hb) && subDue x y) → Fr h₀ L h' m → News h₀ L h' news → Q v { s with heap := h', toks := tk' }) →
    wpAny (model PySem.Challenge.rw_pe0132_01.row.prog w) (ktrTop dp un gd cn cs L a ccd cl outer) (call (.ref 78) [self, .ref ta, .ref tb]) Q E s := by
  w_on
  k_fill
  intro B F X N T hk hta htb hd hu ret
  refine wpAny_call ?_
  k_dflt cell_enter
  have hx' : (S x).length ≤ 20 := by rw [S_len]; exact hx
  have hy' : (S y).length ≤ 20 := by rw [S_len]; exact hy
  k_steps
  · refine ret _ _ _ ?_ (by assumption) (by assumption)
    rename _ ∧ _ => hh
    have e : x = y := by simpa using hh.2
    simp [hh.1, e, subDue]
  · refine ret _ _ _ ?_ (by assumption) (by assumption)
    rename (ha != hb) = true => hh
    have : ha ≠ hb := by simpa using hh
    simp [this]
  · refine ret _ _ _ ?_ (by assumption) (by assumption)
    rename (ha != hb) = false => hh
    rename ¬ _ => hn
    rename (Txt.slice _ _ _ != _) = true => hl
    have e : ha = hb := by simpa using hh
    have hne : x ≠ y := fun q => hn ⟨e, by rw [q]⟩
    have hl' : ¬ (Txt.slice (S x) (some (-1)) none = S [47]) := by rw [← S_slash]; simpa using hl
    rw [last_slash] at hl'
    rw [S_slash, S_app]
    congr 1
    rw [Bool.eq_iff_iff, starts_S]
    simp [e, subDue, hne, hl']
  · refine ret _ _ _ ?_ (by assumption) (by assumption)
    rename (ha != hb) = false => hh
    rename ¬ _ => hn
    rename (Txt.slice _ _ _ != _) = false => hl
    have e : ha = hb := by simpa using hh
    have hne : x ≠ y := fun q => hn ⟨e, by rw [q]⟩
    have hl' : (Txt.slice (S x) (some (-1)) none = S [47]) := by rw [← S_slash]; simpa using hl
    rw [last_slash] at hl'
    congr 1
    rw [Bool.eq_iff_iff, starts_S]
    simp [e, subDue, hne, hl']
end Mine

namespace Mine
set_option maxRecDepth 100000

/-- a goal that the walk is to leave to us -/
structure Stop (P : Prop) : Prop where
  out : P

/-- between two parts of a body: behind the first, I holds, or it has left -/
structure CutPost (I : Shared → Prop) (Q : Flow → Shared → Prop) (f : Flow) (s' : Shared) : Prop where
  out : match f with | .next => I s' | f => Q f s'
theorem CutPost.nx {I : Shared → Prop} {Q : Flow → Shared → Prop} {s' : Shared} (h : I s') : CutPost I Q .next s' := ⟨h⟩
theorem CutPost.rt {I : Shared → Prop} {Q : Flow → Shared → Prop} {s' : Shared} {v : Value} (h : Q (.ret v) s') : CutPost I Q (.ret v) s' := ⟨h⟩

theorem execs_split {M : Model} {A : Around} {E : Value → Shared → Prop} {env : Env} {Q : Flow → Shared → Prop} (k : Nat) (I : Shared → Prop) {l : List Stmt} {s : Shared}
    (h1 : wpAny M A (execs (l.take k) env) (CutPost I Q) E s) (h2 : ∀ s', I s' → wpAny M A (execs (l.drop k) env) Q E s') : wpAny M A (execs l env) Q E s := by
  intro Γ p hΓ
  have h1' := h1 Γ p hΓ
  have key : ∀ (l : List Stmt) (k : Nat) (p : Pos) (s : Shared), (∀ s' p', I s' → Sem.wp M Γ (execs (l.drop k) env) (fun a _ s' => Q a s') (fun e _ s' => E e s') p' s') →
      Sem.wp M Γ (execs (l.take k) env) (fun a _ s' => CutPost I Q a s') (fun e _ s' => E e s') p s → Sem.wp M Γ (execs l env) (fun a _ s' => Q a s') (fun e _ s' => E e s') p s := by
    intro l
    induction l with
    | nil =>
      intro k p s hI h
      rw [List.take_nil] at h
      have hx : CutPost I Q .next s := h
      have := hI s p hx.out
      rw [List.drop_nil] at this
      exact this
    | cons st rest ih =>
      intro k p s hI h
      cases k with
      | zero =>
        have hx : CutPost I Q .next s := h
        exact hI s p hx.out
      | succ k =>
        rw [List.take_succ_cons, execs_cons, Sem.wp_bind'] at h
        rw [execs_cons, Sem.wp_bind']
        refine Sem.wp_mono M Γ _ (fun f p' s' h' => ?_) (fun _ _ _ h' => h') _ _ h
        cases f with
        | next => exact ih k p' s' (fun s' p' hs => by simpa using hI s' p' hs) h'
        | ret v => exact CutPost.out (f := .ret v) h'
        | brk => exact CutPost.out (f := .brk) h'
        | cont => exact CutPost.out (f := .cont) h'
  exact key l k p s (fun s' p' hs => h2 s' hs Γ p' hΓ) h1'

theorem kstB_self {m : Str → Option Value} {ps : List (Str × Value)} (h : ∀ p ∈ ps, m p.1 = some p.2) : kstB m ps = m := by
  funext z
  exact kstB_eq h fun _ => rfl

/-- a state within a call: the frame's names ps, the ledger Led, by a datum of which P holds -/
structure AtE {σ : Type} (g : Heap) (s : Shared) (L : Addr) (Led : σ → List (Addr × Obj)) (ps : σ → List (Str × Value)) (P : σ → Prop) (s' : Shared) : Prop where
  out : ∃ (c : σ) (h' : Heap) (tk : Nat) (m' : Str → Option Value), s' = { s with heap := h', toks := tk } ∧ Fr g L h' m' ∧ (∀ p ∈ ps c, m' p.1 = some p.2) ∧ News g L h' (Led c) ∧ P c

theorem AtE.intro {σ : Type} {g : Heap} {s s₁ : Shared} {L : Addr} {Led : σ → List (Addr × Obj)} {ps : σ → List (Str × Value)} {P : σ → Prop} {h' : Heap} {tk : Nat} {m' : Str → Option Value} {news' : List (Addr × Obj)} (c : σ)
    (F : Fr g L h' m') (hm : ∀ p ∈ ps c, m' p.1 = some p.2) (N : News g L h' news') (hn : ∀ p ∈ Led c, p ∈ news') (hp : P c) (hs : { s₁ with heap := h', toks := tk } = { s with heap := h', toks := tk } := by rfl) :
    AtE g s L Led ps P { s₁ with heap := h', toks := tk } := ⟨c, h', tk, m', hs, F, hm, fun p hq => N p (hn p hq), hp⟩
theorem AtE.open {σ : Type} {g : Heap} {s : Shared} {L : Addr} {Led : σ → List (Addr × Obj)} {ps : σ → List (Str × Value)} {P : σ → Prop} {G : Shared → Prop} (h : ∀ (c : σ) (u : Str → Option Value) (h' : Heap) (tk : Nat), P c → Fr g L h' (kstB u (ps c)) → News g L h' (Led c) → G { s with heap := h', toks := tk }) :
    ∀ s', AtE g s L Led ps P s' → G s' := by
  rintro s' ⟨c, h', tk, m', rfl, F, hm, N, hp⟩
  exact h c m' h' tk hp (by rw [kstB_self hm]; exact F) N

/-- the end of a loop's turn -/
structure TurnEnd {σ : Type} (g : Heap) (s : Shared) (L : Addr) (Led : σ → List (Addr × Obj)) (ps : σ → List (Str × Value)) (P : σ → Prop) (I : Addr) (oI : Obj) (s₂ : Shared) : Prop where
  out : ∃ (c : σ) (h' : Heap) (tk : Nat) (m' : Str → Option Value), s₂ = { s with heap := h', toks := tk } ∧ Fr g L h' m' ∧ (∀ p ∈ ps c, m' p.1 = some p.2) ∧ News g L h' (Led c ++ [(I, oI)]) ∧ (∀ p ∈ Led c, p.1 ≠ I) ∧ P c
structure TurnPost {σ : Type} (g : Heap) (s : Shared) (L : Addr) (Led : σ → List (Addr × Obj)) (ps : σ → List (Str × Value)) (P : σ → Prop) (I : Addr) (oI : Obj) (Q : Flow → Shared → Prop) (f : Flow) (s₂ : Shared) : Prop where
  out : match f with
    | .ret v => Q (.ret v) s₂
    | .brk => Q .next s₂
    | _ => TurnEnd g s L Led ps P I oI s₂
section
variable {σ : Type} {g : Heap} {s s₁ s₂ : Shared} {L : Addr} {Led : σ → List (Addr × Obj)} {ps : σ → List (Str × Value)} {P : σ → Prop} {I : Addr} {oI : Obj} {Q : Flow → Shared → Prop}
theorem TurnPost.nx (h : TurnEnd g s L Led ps P I oI s₂) : TurnPost g s L Led ps P I oI Q .next s₂ := ⟨h⟩
theorem TurnPost.rt {v : Value} (h : Q (.ret v) s₂) : TurnPost g s L Led ps P I oI Q (.ret v) s₂ := ⟨h⟩
theorem TurnEnd.intro {h' : Heap} {tk : Nat} {m' : Str → Option Value} {news' : List (Addr × Obj)} (c : σ)
    (F : Fr g L h' m') (hm : ∀ p ∈ ps c, m' p.1 = some p.2) (N : News g L h' news') (hn : ∀ p ∈ Led c ++ [(I, oI)], p ∈ news') (hI : ∀ p ∈ Led c, p.1 ≠ I) (hp : P c) (hs : { s₁ with heap := h', toks := tk } = { s with heap := h', toks := tk } := by rfl) :
    TurnEnd g s L Led ps P I oI { s₁ with heap := h', toks := tk } := ⟨c, h', tk, m', hs, F, hm, fun p hq => N p (hn p hq), hI, hp⟩
end

section
variable {prog : Program} {w : World} {A : Around} {E : Value → Shared → Prop} {Q : Flow → Shared → Prop} {s : Shared} {env : Env} {g : Heap} {x : Str} {body : List Stmt}

theorem loop_at {σ : Type} {hp₀ : Heap} {I : Addr} {n : Nat} {Pv : Nat → Value → Prop} {St : Nat → Heap → Prop} (Led : σ → List (Addr × Obj)) (ps : σ → List (Str × Value)) (P : Nat → σ → Prop) (c₀ : σ) {m₀ : Str → Option Value} {news : List (Addr × Obj)}
    (W : Walks prog w A I [I] [I] n Pv St) (live : ∀ i h, St i h → ∃ o, h.get? I = some o) (hst : St 0 hp₀) (hL : env.locals ≠ I) (hg : g.get? I = none)
    (F : Fr g env.locals hp₀ m₀) (N : News g env.locals hp₀ news) (hl : ∀ p ∈ Led c₀, p ∈ news) (hI : ∀ p ∈ Led c₀, p.1 ≠ I) (hm : ∀ p ∈ ps c₀, m₀ p.1 = some p.2) (hp : P 0 c₀)
    (turn : ∀ (c : σ) (i : Nat) (v : Value) (u : Str → Option Value) (h : Heap) (tk : Nat) (oI : Obj), i < n → Pv i v → P i c → (∀ p ∈ Led c, p.1 ≠ I) → Fr g env.locals h (fun y => if y = x then some v else kstB u (ps c) y) → News g env.locals h (Led c ++ [(I, oI)]) →
      wpAny (model prog w) A (execs body env) (TurnPost g s env.locals Led ps (P (i + 1)) I oI Q) E { s with heap := h, toks := tk })
    (done : ∀ (c : σ) (u : Str → Option Value) (h : Heap) (tk : Nat), P n c → Fr g env.locals h (kstB u (ps c)) → News g env.locals h (Led c) → Q .next { s with heap := h, toks := tk }) :
    LoopAtV prog w A g env x body Q E (.ref I) { s with heap := hp₀ } := by
  refine ⟨I, [I], [I], n, Pv, St, m₀, Led c₀, fun i m nx => ∃ c : σ, nx = Led c ∧ (∀ p ∈ ps c, m p.1 = some p.2) ∧ P i c, rfl, W, ?_, ?_, ?_, hst, F, fun p hq => N p (hl p hq), ⟨c₀, rfl, hm, hp⟩, ?_, ?_⟩
  · simpa using hL
  · intro b hb; rw [List.mem_singleton.mp hb]; exact hg
  · intro p hq; simpa using hI p hq
  · rintro i v m₁ news₁ s₁ own ⟨hh', tk', rfl⟩ hin hP ⟨c, rfl, hmc, hpc⟩ hoff hown hlive hall hst' F₁ N₁
    obtain ⟨o, ho⟩ := live _ _ hst'
    have hin1 : (I, o) ∈ own := hall I (by simp) hg o ho
    have hone : ∀ p ∈ own, p = (I, o) := by
      intro p hq
      have e1 : p.1 = I := by simpa using hown p hq
      have e2 := hlive p hq
      rw [e1] at e2
      have e3 : some o = some p.2 := ho.symm.trans e2
      cases p; cases e1; cases e3; rfl
    have N₂ : News g env.locals hh' (Led c ++ [(I, o)]) := fun p hq => by
      rcases List.mem_append.mp hq with q | q
      · exact N₁ p (List.mem_append_right _ q)
      · exact N₁ p (List.mem_append_left _ (by rw [List.mem_singleton.mp q]; exact hin1))
    have F₂ : Fr g env.locals hh' (fun y => if y = x then some v else kstB m₁ (ps c) y) := by rw [kstB_self hmc]; exact F₁
    refine wpAny_mono (turn c i v m₁ hh' tk' o hin hP hpc (fun p hq => by simpa using hoff p hq) F₂ N₂) (fun f s₂ q => ?_) fun _ _ e => e
    have fin : TurnEnd g s env.locals Led ps (P (i + 1)) I o s₂ → LoopStepU g env.locals [I] own (fun m nx => ∃ c : σ, nx = Led c ∧ (∀ p ∈ ps c, m p.1 = some p.2) ∧ P (i + 1) c) { s with heap := hh', toks := tk' } .next s₂ := by
      rintro ⟨c', h', tk, m', rfl, F', hm', N', hI', hp'⟩
      refine ⟨rfl, h', tk, m', Led c', rfl, F', fun p hq => ?_, fun p hq => by simpa using hI' p hq, c', rfl, hm', hp'⟩
      rcases List.mem_append.mp hq with q | q
      · exact N' p (List.mem_append_right _ (by rw [hone p q]; simp))
      · exact N' p (List.mem_append_left _ q)
    cases f with
    | ret v => exact .ret (TurnPost.out (f := .ret v) q)
    | brk => exact .brk (TurnPost.out (f := .brk) q)
    | next => exact .next (fin (TurnPost.out (f := .next) q))
    | cont => exact .cont (fin (TurnPost.out (f := .cont) q))
  · rintro h' tk m' news' F' N' _ ⟨c, rfl, hmc, hpc⟩
    exact done c m' h' tk hpc (by rw [kstB_self hmc]; exact F') N'

theorem range_at {σ : Type} {r : Addr} {a₀ b₀ : Int} {t₀ u₀ v₀ : Tok} {n : Nat} (Led : σ → List (Addr × Obj)) (ps : σ → List (Str × Value)) (P : Nat → σ → Prop) (c₀ : σ) {m₀ : Str → Option Value} {news : List (Addr × Obj)}
    (hh : A.handled = none) (hr : IsRange s.heap r a₀ b₀ 1 t₀ u₀ v₀) (hsmall : Builtin.Range.small a₀ b₀ 1 = true) (hn : Builtin.Range.rangeSize a₀ b₀ 1 = (n : Int))
    (F : Fr g env.locals s.heap m₀) (N : News g env.locals s.heap news) (hl : ∀ p ∈ Led c₀, p ∈ news) (hm : ∀ p ∈ ps c₀, m₀ p.1 = some p.2) (hp : P 0 c₀)
    (turn : ∀ (c : σ) (i : Nat) (t : Tok) (u : Str → Option Value) (h : Heap) (tk : Nat) (I : Addr) (oI : Obj), i < n → P i c → (∀ p ∈ Led c, p.1 ≠ I) → Fr g env.locals h (fun y => if y = x then some (.int (a₀ + (i : Int)) t) else kstB u (ps c) y) → News g env.locals h (Led c ++ [(I, oI)]) →
      wpAny (model prog w) A (execs body env) (TurnPost g s env.locals Led ps (P (i + 1)) I oI Q) E { s with heap := h, toks := tk })
    (done : ∀ (c : σ) (u : Str → Option Value) (h : Heap) (tk : Nat), P n c → Fr g env.locals h (kstB u (ps c)) → News g env.locals h (Led c) → Q .next { s with heap := h, toks := tk }) :
    wpAny (model prog w) A (pyIter (.ref r)) (fun it s₂ => LoopAtV prog w A g env x body Q E it s₂) E s := by
  refine wpAny_pyIter_range hr hsmall ?_
  have W : Walks prog w A s.heap.objs.size [s.heap.objs.size] [s.heap.objs.size] n (fun i v => ∃ t, v = .int (a₀ + i * 1) t)
      (fun i h => IsRangeIter h s.heap.objs.size (a₀ + (i : Nat) * 1) ((n : Int) - (i : Nat)) 1) := Walks.range hh _ a₀ 1 n
  refine loop_at Led ps P c₀ W (fun i h q => ⟨_, q⟩) (by show IsRangeIter _ _ _ _ _; rw [hn]; simpa using Heap.get?_push_size _ rfl) (Nat.ne_of_lt F.ns.lt) (next_is_new F) (F.push _) (fun p hp => ⟨Heap.get?_push_of_some _ (N p hp).1, (N p hp).2⟩) hl ?_ hm hp ?_ ?_
  · intro p hq; exact Nat.ne_of_lt (Heap.lt_size (N p (hl p hq)).1)
  · rintro c i v u h tk oI hi ⟨t, rfl⟩ hpc hI' F₁ N₁
    have e1 : a₀ + (i : Int) * 1 = a₀ + (i : Int) := by omega
    rw [e1] at F₁
    exact turn c i t u h tk _ oI hi hpc hI' F₁ N₁
  · exact done

/-- over a range, where a turn changes nothing that is kept -/
theorem range_ro {r : Addr} {a₀ b₀ : Int} {t₀ u₀ v₀ : Tok} {n : Nat} (ps : List (Str × Value)) {m₀ : Str → Option Value} {news : List (Addr × Obj)}
    (hh : A.handled = none) (hr : IsRange s.heap r a₀ b₀ 1 t₀ u₀ v₀) (hsmall : Builtin.Range.small a₀ b₀ 1 = true) (hn : Builtin.Range.rangeSize a₀ b₀ 1 = (n : Int))
    (F : Fr g env.locals s.heap m₀) (N : News g env.locals s.heap news) (hm : ∀ p ∈ ps, m₀ p.1 = some p.2)
    (turn : ∀ (i : Nat) (t : Tok) (u : Str → Option Value) (h : Heap) (tk : Nat) (I : Addr) (oI : Obj), i < n → (∀ p ∈ news, p.1 ≠ I) → Fr g env.locals h (fun y => if y = x then some (.int (a₀ + (i : Int)) t) else kstB u ps y) → News g env.locals h (news ++ [(I, oI)]) →
      wpAny (model prog w) A (execs body env) (TurnPost g s env.locals (fun _ : Unit => news) (fun _ => ps) (fun _ => True) I oI Q) E { s with heap := h, toks := tk })
    (done : ∀ (u : Str → Option Value) (h : Heap) (tk : Nat), Fr g env.locals h (kstB u ps) → News g env.locals h news → Q .next { s with heap := h, toks := tk }) :
    wpAny (model prog w) A (pyIter (.ref r)) (fun it s₂ => LoopAtV prog w A g env x body Q E it s₂) E s :=
  range_at (fun _ : Unit => news) (fun _ => ps) (fun _ _ => True) () hh hr hsmall hn F N (fun _ h => h) hm trivial (fun _ i t u h tk I oI hi _ hI F₁ N₁ => turn i t u h tk I oI hi hI F₁ N₁) (fun _ u h tk _ F₁ N₁ => done u h tk F₁ N₁)

theorem text_at {σ : Type} {l : List Nat} {t₀ : Tok} (Led : σ → List (Addr × Obj)) (ps : σ → List (Str × Value)) (P : Nat → σ → Prop) (c₀ : σ) {m₀ : Str → Option Value} {news : List (Addr × Obj)}
    (hh : A.handled = none) (ha : ∀ c ∈ l, c < 128)
    (F : Fr g env.locals s.heap m₀) (N : News g env.locals s.heap news) (hl : ∀ p ∈ Led c₀, p ∈ news) (hm : ∀ p ∈ ps c₀, m₀ p.1 = some p.2) (hp : P 0 c₀)
    (turn : ∀ (c : σ) (i : Nat) (d : Nat) (t : Tok) (u : Str → Option Value) (h : Heap) (tk : Nat) (I : Addr) (oI : Obj), l[i]? = some d → P i c → (∀ p ∈ Led c, p.1 ≠ I) → Fr g env.locals h (fun y => if y = x then some (.str ⟨#[d]⟩ t) else kstB u (ps c) y) → News g env.locals h (Led c ++ [(I, oI)]) →
      wpAny (model prog w) A (execs body env) (TurnPost g s env.locals Led ps (P (i + 1)) I oI Q) E { s with heap := h, toks := tk })
    (done : ∀ (c : σ) (u : Str → Option Value) (h : Heap) (tk : Nat), P l.length c → Fr g env.locals h (kstB u (ps c)) → News g env.locals h (Led c) → Q .next { s with heap := h, toks := tk }) :
    wpAny (model prog w) A (pyIter (.str ⟨l.toArray⟩ t₀)) (fun it s₂ => LoopAtV prog w A g env x body Q E it s₂) E s := by
  refine wpAny_pyIter_ascii (by simpa using ha) ?_
  have W := Walks.strAscii (prog := prog) (w := w) hh s.heap.objs.size ⟨l.toArray⟩ t₀
  simp only [List.size_toArray] at W
  refine loop_at Led ps P c₀ W (fun i h q => ⟨q.choose, q.choose_spec.1⟩) ⟨_, Heap.get?_push_size _ rfl, rfl, rfl⟩ (Nat.ne_of_lt F.ns.lt) (next_is_new F) (F.push _) (fun p hp => ⟨Heap.get?_push_of_some _ (N p hp).1, (N p hp).2⟩) hl ?_ hm hp ?_ ?_
  · intro p hq; exact Nat.ne_of_lt (Heap.lt_size (N p (hl p hq)).1)
  · rintro c i v u h tk oI hi ⟨d, t, hd, rfl⟩ hpc hI' F₁ N₁
    exact turn c i d t u h tk _ oI (by simpa using hd) hpc hI' F₁ N₁
  · exact done

/-- over a made list that no turn changes -/
theorem list_at {σ : Type} {l : Addr} {ws : List Value} {ks : List Int} {nn : Nat} (Led : σ → List (Addr × Obj)) (ps : σ → List (Str × Value)) (P : Nat → σ → Prop) (c₀ : σ) {m₀ : Str → Option Value} {news : List (Addr × Obj)}
    (hh : A.handled = none) (hmem : ∀ c : σ, (l, PySem.W.listOf ws.toArray nn) ∈ Led c) (hi : IntsAre ws ks)
    (F : Fr g env.locals s.heap m₀) (N : News g env.locals s.heap news) (hl : ∀ p ∈ Led c₀, p ∈ news) (hm : ∀ p ∈ ps c₀, m₀ p.1 = some p.2) (hp : P 0 c₀)
    (turn : ∀ (c : σ) (i : Nat) (k : Int) (t : Tok) (u : Str → Option Value) (h : Heap) (tk : Nat) (I : Addr) (oI : Obj), ks[i]? = some k → P i c → (∀ p ∈ Led c, p.1 ≠ I) → Fr g env.locals h (fun y => if y = x then some (.int k t) else kstB u (ps c) y) → News g env.locals h (Led c ++ [(I, oI)]) →
      wpAny (model prog w) A (execs body env) (TurnPost g s env.locals Led ps (P (i + 1)) I oI Q) E { s with heap := h, toks := tk })
    (done : ∀ (c : σ) (u : Str → Option Value) (h : Heap) (tk : Nat), P ks.length c → Fr g env.locals h (kstB u (ps c)) → News g env.locals h (Led c) → Q .next { s with heap := h, toks := tk }) :
    wpAny (model prog w) A (pyIter (.ref l)) (fun it s₂ => LoopAtV prog w A g env x body Q E it s₂) E s := by
  have z := N _ (hl _ (hmem c₀))
  have hls : s.heap.IsList l ws.toArray := ⟨_, z.1, rfl, nn, rfl⟩
  have hlI : l ≠ s.heap.objs.size := Nat.ne_of_lt (Heap.lt_size z.1)
  refine wpAny_pyIter_list hls ?_
  have W := Walks.list (prog := prog) (w := w) hh s.heap.objs.size l hlI ws.toArray
  have hlen : ws.toArray.size = ks.length := by simp [hi.length]
  rw [hlen] at W
  have hg := next_is_new F
  generalize hIe : s.heap.objs.size = I at *
  refine ⟨I, _, _, ks.length, _, _, m₀, Led c₀, fun i m nx => ∃ c : σ, nx = Led c ∧ (∀ p ∈ ps c, m p.1 = some p.2) ∧ P i c, rfl, W, ?_, ?_, ?_, ⟨⟨_, by rw [← hIe]; exact Heap.get?_push_size _ rfl, rfl, rfl⟩, hls.at fun o e => Heap.get?_push_of_some _ e⟩, F.push _, fun p hq => ⟨Heap.get?_push_of_some _ (N p (hl p hq)).1, (N p (hl p hq)).2⟩, ⟨c₀, rfl, hm, hp⟩, ?_, ?_⟩
  · intro hm'
    rcases List.mem_cons.mp hm' with e | hm'
    · exact absurd F.ns.lt (by rw [hIe, e]; exact Nat.lt_irrefl _)
    · exact z.2.1 (List.mem_singleton.mp hm').symm
  · intro b hb; rw [List.mem_singleton.mp hb]; exact hg
  · intro p hq hw
    exact absurd (Heap.lt_size (N p (hl p hq)).1) (by rw [hIe, List.mem_singleton.mp hw]; exact Nat.lt_irrefl _)
  · rintro i v m₁ news₁ s₁ own ⟨hh', tk', rfl⟩ hin hP ⟨c, rfl, hmc, hpc⟩ hoff hown hlive hall hst' F₁ N₁
    obtain ⟨o, ho, _⟩ := hst'.1
    have hin1 : (I, o) ∈ own := hall I (by simp) hg o ho
    have hone : ∀ p ∈ own, p = (I, o) ∨ p = (l, PySem.W.listOf ws.toArray nn) := by
      intro p hq
      have e2 := hlive p hq
      rcases List.mem_cons.mp (hown p hq) with e1 | e1
      · rw [e1] at e2
        have e3 : some o = some p.2 := ho.symm.trans e2
        cases p; cases e1; cases e3; exact .inl rfl
      · have e1 := List.mem_singleton.mp e1
        rw [e1] at e2
        have e4 := (N₁ _ (List.mem_append_right _ (hmem c))).1
        have e3 : some (PySem.W.listOf ws.toArray nn) = some p.2 := e4.symm.trans e2
        cases p; cases e1; cases e3; exact .inr rfl
    have N₂ : News g env.locals hh' (Led c ++ [(I, o)]) := fun p hq => by
      rcases List.mem_append.mp hq with q | q
      · exact N₁ p (List.mem_append_right _ q)
      · exact N₁ p (List.mem_append_left _ (by rw [List.mem_singleton.mp q]; exact hin1))
    have F₂ : Fr g env.locals hh' (fun y => if y = x then some v else kstB m₁ (ps c) y) := by rw [kstB_self hmc]; exact F₁
    have hlt' : i < ks.length := hin
    obtain ⟨t, hx⟩ := hi.get i ks[i] (by simp [hlt'])
    have hv : v = .int ks[i] t := by
      have hP' : ws[i]? = some v := by simpa using hP
      rw [hx] at hP'; exact (Option.some.inj hP').symm
    subst hv
    refine wpAny_mono (turn c i ks[i] t m₁ hh' tk' I o (by simp [hlt']) hpc (fun p hq => by simpa using hoff p hq) F₂ N₂) (fun f s₂ q => ?_) fun _ _ e => e
    have fin : TurnEnd g s env.locals Led ps (P (i + 1)) I o s₂ → LoopStepU g env.locals [I] own (fun m nx => ∃ c : σ, nx = Led c ∧ (∀ p ∈ ps c, m p.1 = some p.2) ∧ P (i + 1) c) { s with heap := hh', toks := tk' } .next s₂ := by
      rintro ⟨c', h', tk, m', rfl, F', hm', N', hI', hp'⟩
      refine ⟨rfl, h', tk, m', Led c', rfl, F', fun p hq => ?_, fun p hq => by simpa using hI' p hq, c', rfl, hm', hp'⟩
      rcases List.mem_append.mp hq with q | q
      · rcases hone p q with e | e
        · exact N' p (List.mem_append_right _ (by rw [e]; simp))
        · exact N' p (List.mem_append_left _ (by rw [e]; exact hmem c'))
      · exact N' p (List.mem_append_left _ q)
    cases f with
    | ret v => exact .ret (TurnPost.out (f := .ret v) q)
    | brk => exact .brk (TurnPost.out (f := .brk) q)
    | next => exact .next (fin (TurnPost.out (f := .next) q))
    | cont => exact .cont (fin (TurnPost.out (f := .cont) q))
  · rintro h' tk m' news' F' N' _ ⟨c, rfl, hmc, hpc⟩
    exact done c m' h' tk hpc (by rw [kstB_self hmc]; exact F') N'

/-- a while by a datum that falls -/
theorem while_at {σ : Type} {test : Expr} {pos : Pos} {L : Addr} (Led : σ → List (Addr × Obj)) (ps : σ → List (Str × Value)) (P : σ → Prop) (μ : σ → Nat) (c₀ : σ) {m₀ : Str → Option Value} {news : List (Addr × Obj)}
    (F : Fr g L s.heap m₀) (N : News g L s.heap news) (hl : ∀ p ∈ Led c₀, p ∈ news) (hm : ∀ p ∈ ps c₀, m₀ p.1 = some p.2) (hp : P c₀)
    (turn : ∀ (c : σ) (u : Str → Option Value) (h : Heap) (tk : Nat), P c → Fr g L h (kstB u (ps c)) → News g L h (Led c) →
      wpAny (model prog w) A (isTrue test env (eval test env)) (fun b s₂ =>
        if b = true then wpAny (model prog w) A (execs body env) (CutPost (AtE g s L Led ps fun c' => P c' ∧ μ c' < μ c) fun _ _ => False) E s₂ else Q .next s₂) E { s with heap := h, toks := tk })
    (hE : PassesOwn (model prog w) A env E := by passes_own) :
    wpAny (model prog w) A (exec (.While test body [] pos) env) Q E s := by
  refine While_inv2 (fun n m nx => ∃ c : σ, nx = Led c ∧ μ c = n ∧ (∀ p ∈ ps c, m p.1 = some p.2) ∧ P c) F (fun p hq => N p (hl p hq)) ⟨c₀, rfl, rfl, hm, hp⟩ ?_ hE
  rintro n m₁ nx h tk F₁ N₁ ⟨c, rfl, rfl, hmc, hpc⟩
  refine wpAny_mono (turn c m₁ h tk hpc (by rw [kstB_self hmc]; exact F₁) N₁) (fun b s₂ p => ?_) fun _ _ x => x
  cases b with
  | false => simpa using p
  | true =>
    simp only [if_true] at p ⊢
    refine wpAny_mono p (fun f s₃ q => ?_) fun _ _ x => x
    cases f with
    | ret v => exact (CutPost.out (f := .ret v) q).elim
    | brk => exact (CutPost.out (f := .brk) q).elim
    | cont => exact (CutPost.out (f := .cont) q).elim
    | next =>
      obtain ⟨c', h', tk', m', rfl, F', hm', N', hp', hlt⟩ := (CutPost.out (f := .next) q)
      exact ⟨h', tk', m', Led c', μ c', rfl, F', N', hlt, c', rfl, rfl, hm', hp'⟩
end
end Mine

namespace Mine
set_option maxRecDepth 100000
set_option maxHeartbeats 4000000

local macro_rules | `(tactic| walk_at "mine_enter") => `(tactic| (
  k_dflt (refine' pure_enter ?k1 ?k2 ?k3 ?k5 ?kA ?kF ?kK ?k6 ?k7 ?k8 ?k9 ?kB ?kh ?c2 ?c3 ?c4 ?c5 ?kr; (case kA => exact rfl); (case kF => exact rfl); (case kK => assumption); (case k1 => k_asm); (case k2 => k_asm); (case k3 => k_asm); (case k5 => k_asm); (case k6 => k_is); (case k7 => k_is); (case k8 => ktr_room); (case k9 => exact BindsTo.of_eq rfl); (case c5 => decide); (case kB => exact locs rfl); (case c2 => exact rfl); (case c3 => exact rfl); (case c4 => exact rfl); (case kr => assumption))))
local macro_rules | `(tactic| walk_at "PEnd") => `(tactic| (refine PEnd.intro (by assumption) ?_))
local macro_rules | `(tactic| walk_at "CutPost") => `(tactic| first | refine CutPost.nx ?_ | refine CutPost.rt ?_)
local macro_rules | `(tactic| walk_at "TurnPost") => `(tactic| first | refine TurnPost.nx ?_ | refine TurnPost.rt ?_)

local macro_rules | `(tactic| walk_at "subscriptTail Name Slice str ref") => `(tactic| ((with_reducible show wpAny _ _ (subscriptTail _ (Expr.Slice none (some (Expr.BoolOp _ _ _)) none _) _ _) _ _ _); (with_reducible rename Fr _ _ _ _ => F'); (with_reducible rename News _ _ _ _ => N'); (refine slice_strN_nn (hsz := ?hsz) (s := ⟨_, _, _, _, _⟩) F' N' ?_); (case hsz => size_fits); intro _ _ _ _ _))
local macro_rules | `(tactic| walk_at "ite") => `(tactic| first | refine ite_pos (by with_reducible assumption) ?_ | refine ite_neg (by with_reducible assumption) ?_)

local macro_rules | `(tactic| walk_at "pyIter ref") => `(tactic| refine Stop.out ?_)
local macro_rules | `(tactic| walk_at "exec For") => `(tactic| (k_here; (rename Fr _ _ _ _ => lF'); (with_unfolding_all refine' For_invVF lF' ?k1 ?k2 ?_; (case k1 => exact rfl); (case k2 => exact rfl); k_whole)))

theorem subst_use {w : World} {mean : ExcName → Option Value} {mg mb : Str → Option Value} {xs ys : Str} {tx ty : Tok} {c d : Nat} {dp un : Nat} {gd : Option (List Code)} {cn : Str} {cs : Scope} {a : Addr} {ccd : Value} {cl : List (Str × Addr)} {outer : List Env} {A₀ : Around} {base h₀ : Heap} {L : Addr} {m : Str → Option Value} {s : Shared} {Q E : Value → Shared → Prop}
    (B : Below A₀ base outer h₀) (F : Fr h₀ L s.heap m) (X : (hd.heap_39 w.params).In h₀) (T : Top hd.view_39 (looseW hd.view_39 []) mean mg mb h₀) (hk : cs.kind = .function) (e1 : xs = ⟨#[c]⟩) (e2 : ys = ⟨#[d]⟩) (hc : Al c) (hd : Al d)
    (hdp : dp + 1 < recursionLimit) (hun : un + 8 * 1 < cLine) (ret : ∀ t h' tk', s.heap.StaysIn h' → Q (.int (sc c d) t) { s with heap := h', toks := tk' }) :
    wpAny (model PySem.Challenge.rw_pe0132_01.row.prog w) (ktrTop dp un gd cn cs L a ccd cl outer) (call (.ref 28) [.str xs tx, .str ys ty]) Q E s := by
  subst e1 e2
  refine subst_ok c d tx ty hc hd dp un gd cn cs a ccd cl outer A₀ base h₀ L m s Q E B F X T hk trivial hdp hun fun v h' tk' st hv => ?_
  obtain ⟨t, rfl⟩ := hv.out
  exact ret t h' tk' st
local macro_rules | `(tactic| walk_at "call ref") => `(tactic| (k_here; (rename Fr _ _ _ _ => lF'); (rename News _ _ _ _ => lN'); (k_dflt (refine' subst_use ?k1 lF' ?k3 ?k4 ?k5 ?e1 ?e2 ?a1 ?a2 ?kd ?ku ?_; (case k1 => k_asm); (case k3 => k_asm); (case k4 => k_asm); (case k5 => first | exact rfl | assumption); (case e1 => first | with_reducible assumption | with_reducible rfl); (case e2 => first | with_reducible assumption | with_reducible rfl); (case a1 => assumption); (case a2 => assumption); (case kd => ktr_room); (case ku => ktr_units))); intro t' h' tk' st'; (have F' := Mine.Fr.stays lF' st'); (have N' := Mine.News.stays lN' st'); clear lF' lN' st'; (try dsimp only)))

def row0 (n : Nat) : List Int := (List.range n).map fun (i : Nat) => 2 * ((i : Int) + 1)
theorem row0_len (n : Nat) : (row0 n).length = n := by simp [row0]
theorem row0_at {n i : Nat} (h : i < n) : (row0 n)[i]? = some (2 * ((i : Int) + 1)) := by simp [row0, h]
/-- the prices behind k signs of q -/
def rowD (q p : List Nat) (k : Nat) : List Int := (List.range p.length).map fun (j : Nat) => D (q.take k) (p.take (j + 1))
theorem rowD_zero (q p : List Nat) : rowD q p 0 = row0 p.length := by
  unfold rowD row0
  refine List.map_congr_left fun j hj => ?_
  have : j < p.length := List.mem_range.mp hj
  rw [List.take_zero, D_nil, List.length_take]
  congr 1; omega
/-- a row half done -/
def rowH (q p : List Nat) (k i : Nat) : List Int := (List.range p.length).map fun (j : Nat) => if j < i then D (q.take (k + 1)) (p.take (j + 1)) else D (q.take k) (p.take (j + 1))
theorem rowH_zero (q p : List Nat) (k : Nat) : rowH q p k 0 = rowD q p k := by simp [rowH, rowD]
theorem rowH_all (q p : List Nat) (k : Nat) : rowH q p k p.length = rowD q p (k + 1) := by
  unfold rowH rowD
  refine List.map_congr_left fun j hj => ?_
  rw [if_pos (List.mem_range.mp hj)]
theorem rowH_len (q p : List Nat) (k i : Nat) : (rowH q p k i).length = p.length := by simp [rowH]
theorem rowD_len (q p : List Nat) (k : Nat) : (rowD q p k).length = p.length := by simp [rowD]

theorem rowH_at {q p : List Nat} {k i j : Nat} (h : j < p.length) : (rowH q p k i)[j]? = some (if j < i then D (q.take (k + 1)) (p.take (j + 1)) else D (q.take k) (p.take (j + 1))) := by
  simp [rowH, h]
/-- one place of a row -/
theorem row_step {q p : List Nat} {i j : Nat} {ns : List Int} {ds rs : Int} (hi : i < q.length) (hj : j < p.length) (hns : ns = rowH q p i j) (hds : ds = D (q.take i) (p.take j))
    (hrs : rs = if j = 0 then 2 * (i : Int) else D (q.take (i + 1)) (p.take j)) {v : Int}
    (hv : v = if ds + sc q[i] p[j] < (if ns.getD ((j : Int)).toNat 0 < rs then ns.getD ((j : Int)).toNat 0 else rs) + 2 then ds + sc q[i] p[j] else (if ns.getD ((j : Int)).toNat 0 < rs then ns.getD ((j : Int)).toNat 0 else rs) + 2) :
    ns.getD ((j : Int)).toNat 0 = D (q.take i) (p.take (j + 1)) ∧ v = D (q.take (i + 1)) (p.take (j + 1)) ∧ ns.set ((j : Int)).toNat v = rowH q p i (j + 1) := by
  have ej : ((j : Int)).toNat = j := by omega
  rw [ej] at hv ⊢
  have gi : q[i]? = some q[i] := List.getElem?_eq_getElem hi
  have gj : p[j]? = some p[j] := List.getElem?_eq_getElem hj
  have ho : ns.getD j 0 = D (q.take i) (p.take (j + 1)) := by
    rw [List.getD_eq_getElem?_getD, hns, rowH_at hj, if_neg (by omega)]
    rfl
  have hs := D_snoc (q.take i) (p.take j) q[i] p[j]
  rw [← take_snoc gi, ← take_snoc gj] at hs
  have hr := sc_range q[i] p[j]
  have hval : v = D (q.take (i + 1)) (p.take (j + 1)) := by
    rw [ho] at hv
    rw [hs]
    by_cases h0 : j = 0
    · subst h0
      rw [if_pos rfl] at hrs
      rw [List.take_zero, D_nil', List.length_take] at hds
      have h2 : D (q.take (i + 1)) (p.take 0) = 2 * ((i : Int) + 1) := by
        rw [List.take_zero, D_nil', List.length_take]; omega
      have h3 : D (q.take i) (p.take 0) = 2 * (i : Int) := by
        rw [List.take_zero, D_nil', List.length_take]; omega
      rw [h2, h3]
      split at hv <;> split at hv <;> omega
    · rw [if_neg h0] at hrs
      rw [← hds, ← hrs]
      split at hv <;> split at hv <;> omega
  refine ⟨ho, hval, ?_⟩
  apply List.ext_getElem?
  intro k
  rw [List.getElem?_set, hns]
  by_cases hk : k < p.length
  · rw [rowH_at hk, rowH_at hk]
    by_cases e : j = k
    · subst e
      rw [if_pos rfl, if_pos (by rw [rowH_len]; exact hk), if_pos (by omega), hval]
    · rw [if_neg e]
      by_cases e2 : k < j
      · rw [if_pos e2, if_pos (by omega)]
      · rw [if_neg e2, if_neg (by omega)]
  · have n1 : (rowH q p i j)[k]? = none := List.getElem?_eq_none (by rw [rowH_len]; omega)
    have n2 : (rowH q p i (j + 1))[k]? = none := List.getElem?_eq_none (by rw [rowH_len]; omega)
    rw [n1, n2, if_neg (by omega)]

theorem min_step {v mi : Int} {f : Nat → Int} {j : Nat} (hv : v = f j) (hlt : v < mi) (hmi : ∀ k, k < j → mi ≤ f k) : ∀ k, k < j + 1 → v ≤ f k := fun k hk => by
  by_cases e : k = j
  · subst e; omega
  · have := hmi k (by omega); omega
theorem min_keep {v mi : Int} {f : Nat → Int} {j : Nat} (hv : v = f j) (hlt : ¬ v < mi) (hmi : ∀ k, k < j → mi ≤ f k) : ∀ k, k < j + 1 → mi ≤ f k := fun k hk => by
  by_cases e : k = j
  · subst e; omega
  · exact hmi k (by omega)

theorem ints_of : ∀ (vs : List Value) (ns : List Int), vs.length = ns.length → (∀ (j : Nat) (v : Value), vs[j]? = some v → ∃ n t, ns[j]? = some n ∧ v = .int n t) → IntsAre vs ns
  | [], [], _, _ => IntsAre.nil
  | [], _ :: _, e, _ => by simp at e
  | _ :: _, [], e, _ => by simp at e
  | v :: r, n :: ns, e, h => by
    obtain ⟨n', t, hn, rfl⟩ := h 0 v rfl
    have : n = n' := by simpa using hn
    subst this
    exact IntsAre.cons _ _ (ints_of r ns (by simpa using e) fun j v hj => h (j + 1) v hj)
theorem size_two {n : Nat} : Builtin.Range.rangeSize 2 (2 * ((n : Int) + 1)) 2 = (n : Int) := by
  unfold Builtin.Range.rangeSize
  simp only [show (2 : Int) > 0 by decide, if_true]
  split <;> omega
theorem small_two : ∀ n : Nat, n < 101 → Builtin.Range.small 2 (2 * ((n : Int) + 1)) 2 = true := by decide +kernel
theorem list_range2 {prog : Program} {w : World} {A : Around} {E : Value → Shared → Prop} {s : Shared} {h₀ : Heap} {L r : Addr} {m : Str → Option Value} {news : List (Addr × Obj)} {b : Int} {t₀ u₀ v₀ : Tok} {Q : Value → Shared → Prop} (n : Nat)
    (hh : A.handled = none) (F : Fr h₀ L s.heap m) (N : News h₀ L s.heap news) (hr : IsRange s.heap r 2 b 2 t₀ u₀ v₀) (hb : b = 2 * ((n : Int) + 1)) (hn : n ≤ 100)
    (h : ∀ D us c h' tk, Fr h₀ L h' m → News h₀ L h' ((D, listOf (List.toArray us) c) :: news) → (∀ p ∈ news, p.1 < D) → IntsAre us (row0 n) → Q (.ref D) { s with heap := h', toks := tk }) :
    wpAny (model prog w) A (call (.type "list") [.ref r]) Q E s := by
  subst hb
  refine call_list_range hh hr ?_ size_two (by omega) fun h' tk acc c hk hD hI => ?_
  · exact small_two n (by omega)
  have hD' : h'.get? s.heap.objs.size = some (listOf (List.toArray acc.toList) c) := by
    rw [Array.toArray_toList]
    exact hD
  refine h _ acc.toList c h' tk (F.keeps hk) (news_pushed F N hk hD' rfl) (fun p hp => Heap.lt_size (N p hp).1) (ints_of _ _ ?_ fun j v hj => ?_)
  · rw [Array.length_toList, row0_len]; exact hI.1
  · obtain ⟨t, ht⟩ := hI.2 j v (by rw [← hj, Array.getElem?_toList])
    have hlt : j < n := by
      have := (List.getElem?_eq_some_iff.mp hj).1
      rw [Array.length_toList, hI.1] at this; exact this
    exact ⟨_, t, row0_at hlt, by rw [ht]; congr 1; omega⟩
local macro_rules | `(tactic| walk_at "call type:list") => `(tactic| (k_here; (with_reducible show wpAny _ _ (call (Value.type _) [Value.ref _]) _ _ _); (rename IsRange _ _ _ _ _ _ _ _ => rgX); (with_unfolding_all refine' list_range2 _ ?k0 ?k1 ?k2 ?k3 ?k4 ?k5 ?_; (case k0 => rfl); (case k1 => k_asm); (case k2 => k_asm); (case k3 => first | exact rgX | assumption); (case k4 => (first | assumption | rfl)); (case k5 => omega); k_whole); intro D' vs' c' h' tk' F' N' l1 hI'; (try k_lt l1); (try k_sweep)))

theorem execs_one {M : Model} {A : Around} {E : Value → Shared → Prop} {env : Env} {Q : Flow → Shared → Prop} {st : Stmt} {s : Shared} (h : wpAny M A (exec st env) Q E s) : wpAny M A (execs [st] env) Q E s :=
  wpAny_execs_cons (wpAny_mono h (fun f s' q => by cases f <;> first | exact q | exact wpAny_execs_nil q) fun _ _ x => x)

theorem lev_ok {w : World} {mean : ExcName → Option Value} {mg mb : Str → Option Value} (x y : List Nat) (mc : Int) (tx ty tm : Tok) (hx : x.length ≤ 20) (hy : y.length ≤ 20) (ax : ∀ c ∈ x, Al c) (ay : ∀ c ∈ y, Al c) (hmc : mc = D x y ∨ mc = D x y - 1) :
    PClaim w mean mg mb 35 [.str (S x) tx, .str (S y) ty, .int mc tm] (fun _ => True) 3 (fun v _ => IsI (D x y) v) := by
  w_on
  unfold PClaim
  k_fill
  intro dp un gd cn cs a ccd cl outer A₀ base h₀ L m s Q E B F X T hk _ hdp hun ret
  walk_at "mine_enter"
  clear B F X T ret
  intro L' h' F' N' B' X' T'
  try dsimp only
  have hx' : (S x).length ≤ 20 := by rw [S_len]; exact hx
  have hy' : (S y).length ≤ 20 := by rw [S_len]; exact hy
  -- the first two statements
  refine execs_split 2 (AtE s.heap s L' (fun _ => []) (fun t : Tok => [(Str.ofString "a", .str (S x) tx), (Str.ofString "b", .str (S y) ty), (Str.ofString "max_cost", .int mc tm), (Str.ofString "pre", .int 0 t)]) (fun _ => x ≠ y)) ?_ ?_
  · simp only [List.take_succ_cons, List.take_zero]
    k_steps
    · refine IsI.of ?_
      rename _ = true => hh
      rw [S_beq] at hh
      have e : x = y := by simpa using hh
      rw [((D_zero x y).mpr e)]
    · refine AtE.intro _ (by assumption) (by kst_all) (by assumption) (by simp) ?_
      rename _ = false => hh
      rw [S_beq] at hh
      simpa using hh
  clear F' N'
  refine AtE.open fun t u h1 tk1 hne F1 N1 => ?_
  simp only [List.drop_succ_cons, List.drop_zero]
  -- the loop over the common beginning
  refine execs_split 1 (AtE s.heap s L' (fun _ => []) (fun c : Nat × Tok => [(Str.ofString "a", .str (S x) tx), (Str.ofString "b", .str (S y) ty), (Str.ofString "max_cost", .int mc tm), (Str.ofString "pre", .int (c.1 : Int) c.2)]) (fun c => c.1 ≤ x.length ∧ c.1 ≤ y.length ∧ x.take c.1 = y.take c.1)) ?_ ?_
  · simp only [List.take_succ_cons, List.take_zero]
    refine execs_one ?_
    refine while_at (fun _ => []) (fun c : Nat × Tok => [(Str.ofString "a", .str (S x) tx), (Str.ofString "b", .str (S y) ty), (Str.ofString "max_cost", .int mc tm), (Str.ofString "pre", .int (c.1 : Int) c.2)]) (fun c => c.1 ≤ x.length ∧ c.1 ≤ y.length ∧ x.take c.1 = y.take c.1) (fun c => x.length - c.1) (0, t) F1 N1 (by simp) (by kst_all) (by simp) ?_
    clear F1 N1
    rintro ⟨k, tk⟩ u1 h2 tk2 ⟨hk1, hk2, hk3⟩ F2 N2
    dsimp only at hk1 hk2 hk3 F2 N2 ⊢
    have e1 : Txt.slice (S x) (some (k : Int)) none = S (x.drop k) := slice_from (by omega) (by omega)
    have e2 : Txt.slice (S y) (some (k : Int)) none = S (y.drop k) := slice_from (by omega) (by omega)
    have l1 : (Txt.slice (S x) (some (k : Int)) none).length = x.length - k := by rw [e1, S_len]; simp
    have l2 : (Txt.slice (S y) (some (k : Int)) none).length = y.length - k := by rw [e2, S_len]; simp
    have l3 : (S x).length = x.length := S_len x
    have l4 : (S y).length = y.length := S_len y
    k_steps
    · have hk4 : k < x.length := by omega
      have hk5 : k < y.length := by omega
      have g1 : x[k]? = some x[k] := List.getElem?_eq_getElem hk4
      have g2 : y[k]? = some y[k] := List.getElem?_eq_getElem hk5
      rename (Txt.item _ _ == Txt.item _ _) = true => hh
      rw [item_S g1, item_S g2] at hh
      have hc : x[k] = y[k] := by simpa using hh
      refine AtE.intro (k + 1, _) (by assumption) (by kst_all) (by assumption) (by simp) ⟨⟨by show k + 1 ≤ _; omega, by show k + 1 ≤ _; omega, ?_⟩, by show x.length - (k + 1) < x.length - k; omega⟩
      show x.take (k + 1) = y.take (k + 1)
      rw [take_snoc g1, take_snoc g2, hk3, hc]
    all_goals exact AtE.intro (k, tk) (by assumption) (by kst_all) (by assumption) (by simp) ⟨hk1, hk2, hk3⟩
  clear F1 N1
  refine AtE.open ?_
  rintro ⟨j, t2⟩ u2 h2 tk2 ⟨hj1, hj2, hj3⟩ F2 N2
  simp only [List.drop_succ_cons, List.drop_zero]
  dsimp only at hj1 hj2 hj3 F2
  have hD : D (x.drop j) (y.drop j) = D x y := by
    have := D_pre (x.take j) (x.drop j) (y.drop j)
    rw [List.take_append_drop, hj3, List.take_append_drop] at this
    exact this.symm
  have e1 : Txt.slice (S x) (some (j : Int)) none = S (x.drop j) := slice_from (by omega) (by omega)
  have e2 : Txt.slice (S y) (some (j : Int)) none = S (y.drop j) := slice_from (by omega) (by omega)
  generalize hxa : x.drop j = xa at *
  generalize hya : y.drop j = ya at *
  have hxl : xa.length ≤ 20 := by rw [← hxa, List.length_drop]; omega
  have hyl : ya.length ≤ 20 := by rw [← hya, List.length_drop]; omega
  have axa : ∀ c ∈ xa, Al c := fun c hc => ax c (by rw [← hxa] at hc; exact List.mem_of_mem_drop hc)
  have aya : ∀ c ∈ ya, Al c := fun c hc => ay c (by rw [← hya] at hc; exact List.mem_of_mem_drop hc)
  -- the cut beginnings, and post = 0
  refine execs_split 3 (AtE s.heap s L' (fun _ => []) (fun c : Tok × Tok × Tok => [(Str.ofString "a", .str (S xa) c.1), (Str.ofString "b", .str (S ya) c.2.1), (Str.ofString "max_cost", .int mc tm), (Str.ofString "post", .int 0 c.2.2)]) (fun _ => True)) ?_ ?_
  · simp only [List.take_succ_cons, List.take_zero]
    k_steps
    rename Fr _ _ _ _ => FF
    rw [e1, e2] at FF
    exact AtE.intro (_, _, _) FF (by kst_all) (by assumption) (by simp) trivial
  clear F2 N2
  refine AtE.open ?_
  rintro ⟨ta, tb, t3⟩ u3 h3 tk3 - F3 N3
  simp only [List.drop_succ_cons, List.drop_zero]
  dsimp only at F3
  -- the loop over the common end
  refine execs_split 1 (AtE s.heap s L' (fun _ => []) (fun c : Nat × Tok => [(Str.ofString "a", .str (S xa) ta), (Str.ofString "b", .str (S ya) tb), (Str.ofString "max_cost", .int mc tm), (Str.ofString "post", .int (-(c.1 : Int)) c.2)]) (fun c => c.1 ≤ xa.length ∧ c.1 ≤ ya.length ∧ xa.drop (xa.length - c.1) = ya.drop (ya.length - c.1))) ?_ ?_
  · simp only [List.take_succ_cons, List.take_zero]
    refine execs_one ?_
    refine while_at (fun _ => []) (fun c : Nat × Tok => [(Str.ofString "a", .str (S xa) ta), (Str.ofString "b", .str (S ya) tb), (Str.ofString "max_cost", .int mc tm), (Str.ofString "post", .int (-(c.1 : Int)) c.2)]) (fun c => c.1 ≤ xa.length ∧ c.1 ≤ ya.length ∧ xa.drop (xa.length - c.1) = ya.drop (ya.length - c.1)) (fun c => xa.length - c.1) (0, t3) F3 N3 (by simp) (by kst_all) (by simp) ?_
    clear F3 N3
    rintro ⟨k, tk⟩ u1 h2 tk2 ⟨hk1, hk2, hk3⟩ F2 N2
    dsimp only at hk1 hk2 hk3 F2 N2 ⊢
    have hxl' : (S xa).length ≤ 20 := by rw [S_len]; exact hxl
    have hyl' : (S ya).length ≤ 20 := by rw [S_len]; exact hyl
    have l3 : (S xa).length = xa.length := S_len xa
    have l4 : (S ya).length = ya.length := S_len ya
    simp only [kstB] at F2
    have fin : ∀ c d : Nat, xa[xa.length - (k + 1)]? = some c → ya[ya.length - (k + 1)]? = some d → c = d → k < xa.length → k < ya.length → xa.drop (xa.length - (k + 1)) = ya.drop (ya.length - (k + 1)) := by
      intro c d g1 g2 e q1 q2
      have q3 : xa.length - (k + 1) + 1 = xa.length - k := by omega
      have q4 : ya.length - (k + 1) + 1 = ya.length - k := by omega
      obtain ⟨i1, j1⟩ := List.getElem?_eq_some_iff.mp g1
      obtain ⟨i2, j2⟩ := List.getElem?_eq_some_iff.mp g2
      rw [List.drop_eq_getElem_cons i1, List.drop_eq_getElem_cons i2, q3, q4, hk3, j1, j2, e]
    by_cases hk0 : k = 0
    · have m1 : Txt.slice (S xa) none none = S xa := slice_nn xa
      have m2 : Txt.slice (S ya) none none = S ya := slice_nn ya
      have l1 : (Txt.slice (S xa) none none).length = xa.length := by rw [m1, S_len]
      have l2 : (Txt.slice (S ya) none none).length = ya.length := by rw [m2, S_len]
      have c1 : ¬ ((-(k : Int) != 0) = true) := by simp [hk0]
      k_steps
      · have q1 : k < xa.length := by omega
        have q2 : k < ya.length := by omega
        have g1 : xa[xa.length - (k + 1)]? = some xa[xa.length - (k + 1)] := List.getElem?_eq_getElem _
        have g2 : ya[ya.length - (k + 1)]? = some ya[ya.length - (k + 1)] := List.getElem?_eq_getElem _
        rename (Txt.item _ _ == Txt.item _ _) = true => hh
        rw [item_neg (k := xa.length - (k + 1)) (by omega) (by omega) (by omega) g1, item_neg (k := ya.length - (k + 1)) (by omega) (by omega) (by omega) g2] at hh
        have hc : xa[xa.length - (k + 1)] = ya[ya.length - (k + 1)] := by simpa using hh
        have en : -(((k + 1 : Nat)) : Int) = -(k : Int) - 1 := by omega
        refine AtE.intro (k + 1, _) (by assumption) (by dsimp only; rw [en]; kst_all) (by assumption) (by simp) ⟨⟨by show k + 1 ≤ _; omega, by show k + 1 ≤ _; omega, fin _ _ g1 g2 hc q1 q2⟩, by show xa.length - (k + 1) < xa.length - k; omega⟩
      all_goals exact AtE.intro (k, tk) (by assumption) (by kst_all) (by assumption) (by simp) ⟨hk1, hk2, hk3⟩
    · have m1 : Txt.slice (S xa) none (some (-(k : Int))) = S (xa.take (xa.length - k)) := by
        rw [slice_to_neg (by omega) (by omega)]; congr 3; omega
      have m2 : Txt.slice (S ya) none (some (-(k : Int))) = S (ya.take (ya.length - k)) := by
        rw [slice_to_neg (by omega) (by omega)]; congr 3; omega
      have l1 : (Txt.slice (S xa) none (some (-(k : Int)))).length = xa.length - k := by rw [m1, S_len, List.length_take]; omega
      have l2 : (Txt.slice (S ya) none (some (-(k : Int)))).length = ya.length - k := by rw [m2, S_len, List.length_take]; omega
      have c1 : (-(k : Int) != 0) = true := by simp [hk0]
      k_steps
      · have q1 : k < xa.length := by omega
        have q2 : k < ya.length := by omega
        have g1 : xa[xa.length - (k + 1)]? = some xa[xa.length - (k + 1)] := List.getElem?_eq_getElem _
        have g2 : ya[ya.length - (k + 1)]? = some ya[ya.length - (k + 1)] := List.getElem?_eq_getElem _
        rename (Txt.item _ _ == Txt.item _ _) = true => hh
        rw [item_neg (k := xa.length - (k + 1)) (by omega) (by omega) (by omega) g1, item_neg (k := ya.length - (k + 1)) (by omega) (by omega) (by omega) g2] at hh
        have hc : xa[xa.length - (k + 1)] = ya[ya.length - (k + 1)] := by simpa using hh
        have en : -(((k + 1 : Nat)) : Int) = -(k : Int) - 1 := by omega
        refine AtE.intro (k + 1, _) (by assumption) (by dsimp only; rw [en]; kst_all) (by assumption) (by simp) ⟨⟨by show k + 1 ≤ _; omega, by show k + 1 ≤ _; omega, fin _ _ g1 g2 hc q1 q2⟩, by show xa.length - (k + 1) < xa.length - k; omega⟩
      all_goals exact AtE.intro (k, tk) (by assumption) (by kst_all) (by assumption) (by simp) ⟨hk1, hk2, hk3⟩
  clear F3 N3
  refine AtE.open ?_
  rintro ⟨k, t4⟩ u4 h4 tk4 ⟨hk1, hk2, hk3⟩ F4 N4
  simp only [List.drop_succ_cons, List.drop_zero]
  dsimp only at hk1 hk2 hk3 F4
  simp only [kstB] at F4
  -- both are cut at their ends
  refine execs_split 2 (AtE s.heap s L' (fun _ => []) (fun c : Tok × Tok => [(Str.ofString "a", .str (S (xa.take (xa.length - k))) c.1), (Str.ofString "b", .str (S (ya.take (ya.length - k))) c.2), (Str.ofString "max_cost", .int mc tm)]) (fun _ => True)) ?_ ?_
  · simp only [List.take_succ_cons, List.take_zero]
    have hxl' : (S xa).length ≤ 20 := by rw [S_len]; exact hxl
    have hyl' : (S ya).length ≤ 20 := by rw [S_len]; exact hyl
    by_cases hk0 : k = 0
    · have m1 : Txt.slice (S xa) none none = S (xa.take (xa.length - k)) := by rw [slice_nn, hk0]; simp
      have m2 : Txt.slice (S ya) none none = S (ya.take (ya.length - k)) := by rw [slice_nn, hk0]; simp
      have c1 : ¬ ((-(k : Int) != 0) = true) := by simp [hk0]
      k_steps
      rename Fr _ _ _ _ => FF
      rw [m1, m2] at FF
      exact AtE.intro (_, _) FF (by kst_all) (by assumption) (by simp) trivial
    · have m1 : Txt.slice (S xa) none (some (-(k : Int))) = S (xa.take (xa.length - k)) := by
        rw [slice_to_neg (by omega) (by omega)]; congr 3; omega
      have m2 : Txt.slice (S ya) none (some (-(k : Int))) = S (ya.take (ya.length - k)) := by
        rw [slice_to_neg (by omega) (by omega)]; congr 3; omega
      have c1 : (-(k : Int) != 0) = true := by simp [hk0]
      k_steps
      rename Fr _ _ _ _ => FF
      rw [m1, m2] at FF
      exact AtE.intro (_, _) FF (by kst_all) (by assumption) (by simp) trivial
  clear F4 N4
  have hD2 : D (xa.take (xa.length - k)) (ya.take (ya.length - k)) = D x y := by
    have := D_post (xa.drop (xa.length - k)) (xa.take (xa.length - k)) (ya.take (ya.length - k))
    rw [List.take_append_drop] at this
    rw [hk3, List.take_append_drop, hD] at this
    exact this.symm
  have hxl2 : (xa.take (xa.length - k)).length ≤ 20 := by rw [List.length_take]; omega
  have hyl2 : (ya.take (ya.length - k)).length ≤ 20 := by rw [List.length_take]; omega
  have axa2 : ∀ c ∈ xa.take (xa.length - k), Al c := fun c hc => axa c (List.mem_of_mem_take hc)
  have aya2 : ∀ c ∈ ya.take (ya.length - k), Al c := fun c hc => aya c (List.mem_of_mem_take hc)
  generalize xa.take (xa.length - k) = p at *
  generalize ya.take (ya.length - k) = q at *
  clear hk1 hk2 hk3 hD axa aya hxl hyl e1 e2 hj1 hj2 hj3 hxa hya
  refine AtE.open ?_
  rintro ⟨t5, t6⟩ u5 h5 tk5 - F5 N5
  simp only [List.drop_succ_cons, List.drop_zero]
  dsimp only at F5
  simp only [kstB] at F5
  -- empty ones, long ones, the shorter first
  refine execs_split 3 (AtE s.heap s L' (fun _ => []) (fun c : (List Nat × Tok) × (List Nat × Tok) => [(Str.ofString "a", .str (S c.1.1) c.1.2), (Str.ofString "b", .str (S c.2.1) c.2.2), (Str.ofString "max_cost", .int mc tm)])
    (fun c => D c.1.1 c.2.1 = D x y ∧ c.1.1 ≠ [] ∧ c.1.1.length ≤ c.2.1.length ∧ c.2.1.length ≤ 20 ∧ (∀ d ∈ c.1.1, Al d) ∧ (∀ d ∈ c.2.1, Al d))) ?_ ?_
  · simp only [List.take_succ_cons, List.take_zero]
    have l1 : (S p).length = p.length := S_len p
    have l2 : (S q).length = q.length := S_len q
    k_steps
    · refine AtE.intro ((q, t6), (p, t5)) (by assumption) (by kst_all) (by assumption) (by simp) ⟨?_, ?_, by show q.length ≤ p.length; omega, hxl2, aya2, axa2⟩
      · show D q p = D x y; rw [D_comm]; exact hD2
      · show q ≠ []
        intro e; have e' : q.length = 0 := by rw [e]; rfl
        omega
    · refine AtE.intro ((p, t5), (q, t6)) (by assumption) (by kst_all) (by assumption) (by simp) ⟨hD2, ?_, by show p.length ≤ q.length; omega, hyl2, axa2, aya2⟩
      show p ≠ []
      intro e; have e' : p.length = 0 := by rw [e]; rfl
      omega
    · refine IsI.of ?_
      have e : q = [] := List.eq_nil_of_length_eq_zero (by omega)
      rw [← hD2, e, D_nil']
      have : (S ([] : List Nat)).length = 0 := rfl
      omega
    · refine IsI.of ?_
      have e : p = [] := List.eq_nil_of_length_eq_zero (by omega)
      rw [← hD2, e, D_nil]
      have : (S ([] : List Nat)).length = 0 := rfl
      omega
  clear F5 N5 hD2 hxl2 hyl2 axa2 aya2 p q
  refine AtE.open ?_
  rintro ⟨⟨p, t7⟩, ⟨q, t8⟩⟩ u6 h6 tk6 ⟨hD2, hpn, hpq, hq20, axp, axq⟩ F6 N6
  simp only [List.drop_succ_cons, List.drop_zero]
  dsimp only at F6 hD2 hpn hpq hq20 axp axq
  simp only [kstB] at F6
  have l1 : (S p).length = p.length := S_len p
  have l2 : (S q).length = q.length := S_len q
  have hp20 : (S p).length ≤ 20 := by omega
  have hq20' : (S q).length ≤ 20 := by omega
  have hp0 : 0 < p.length := List.length_pos_iff.mpr hpn
  have hsz := D_size q p
  rw [D_comm q p, hD2] at hsz
  -- too far apart; the first row
  refine execs_split 3 (AtE s.heap s L' (fun c : Addr × List Value × Nat × Tok => [(c.1, listOf c.2.1.toArray c.2.2.1)]) (fun c : Addr × List Value × Nat × Tok => [(Str.ofString "a", .str (S p) t7), (Str.ofString "b", .str (S q) t8), (Str.ofString "max_cost", .int mc tm), (Str.ofString "row", .ref c.1), (Str.ofString "result", .int 0 c.2.2.2)])
    (fun c => IntsAre c.2.1 (row0 p.length))) ?_ ?_
  · simp only [List.take_succ_cons, List.take_zero]
    have hb : 2 * (((S p).length : Int) + 1) = 2 * ((p.length : Int) + 1) := by omega
    k_steps
    · refine IsI.of ?_
      rcases hmc with e | e <;> omega
    · exact AtE.intro (_, _, _, _) (by assumption) (by kst_all) (by assumption) (by intro _ hq; exact hq) (by assumption)
  clear F6 N6
  refine AtE.open ?_
  rintro ⟨r, vs0, n0, t9⟩ u7 h7 tk7 hI0 F7 N7
  simp only [List.drop_succ_cons, List.drop_zero]
  dsimp only at F7 N7 hI0
  simp only [kstB] at F7
  have hDqp : D q p = D x y := by rw [D_comm]; exact hD2
  -- the rows
  refine execs_split 1 (AtE s.heap s L' (fun _ => []) (fun c : Tok => [(Str.ofString "result", .int (D x y) c)]) (fun _ => True)) ?_ ?_
  · simp only [List.take_succ_cons, List.take_zero]
    refine execs_one ?_
    k_steps
    refine ⟨?_⟩
    rename IsRange _ _ _ _ _ _ _ _ => hR
    rename Fr _ _ _ _ => F9
    rename News _ _ _ _ => N9
    rename IntsAre _ _ => hI0
    refine range_at (n := q.length) (fun c : List Value × List Int × Nat × Int × Tok => [(r, listOf c.1.toArray c.2.2.1)])
      (fun c => [(Str.ofString "a", .str (S p) t7), (Str.ofString "b", .str (S q) t8), (Str.ofString "max_cost", .int mc tm), (Str.ofString "row", .ref r), (Str.ofString "result", .int c.2.2.2.1 c.2.2.2.2)])
      (fun i c => IntsAre c.1 c.2.1 ∧ c.2.1 = rowD q p i ∧ (0 < i → c.2.2.2.1 = D (q.take i) p)) (vs0, row0 p.length, n0, 0, t9) rfl hR (small_one (by omega) (by omega) (by omega) (by omega)) (by rw [rangeSize_nat]; omega) F9 N9 (by intro _ hq; exact hq) (by kst_all) ⟨hI0, (rowD_zero q p).symm, fun h => absurd h (by omega)⟩ ?_ ?_
    · clear F9 N9 hR
      rename Fr _ _ _ _ => Fo
      rename News _ _ _ _ => No
      clear Fo No
      rintro ⟨vs, ns, nn, rs, tr⟩ i t u h tk I oI hi ⟨hI, hns, hrs⟩ hne F1 N1
      dsimp only at hI hns hrs hne F1 N1 ⊢
      simp only [kstB, Int.zero_add] at F1
      simp only [List.cons_append, List.nil_append] at N1
      have gi : q[i]? = some q[i] := List.getElem?_eq_getElem hi
      have ei : Txt.item (S q) (i : Int) = ⟨#[q[i]]⟩ := item_S gi
      change Fr s.heap L' h _ at F1
      change News s.heap L' h _ at N1
      have hrI : @Ne Nat r I := hne _ (List.Mem.head _)
      k_steps
      refine ⟨?_⟩
      rename IsRange _ _ _ _ _ _ _ _ => hR
      rename Fr _ _ _ _ => F9
      rename News _ _ _ _ => N9
      rename IntsAre _ _ => hI
      rw [ei] at F9
      refine range_at (n := p.length) (fun c : List Value × List Int × Nat × (Int × Tok) × (Int × Tok) × (Int × Tok) => [(r, listOf c.1.toArray c.2.2.1), (I, oI)])
        (fun c => [(Str.ofString "a", .str (S p) t7), (Str.ofString "b", .str (S q) t8), (Str.ofString "max_cost", .int mc tm), (Str.ofString "row", .ref r), (Str.ofString "bchar", .str ⟨#[q[i]]⟩ tk), (Str.ofString "distance", .int c.2.2.2.1.1 c.2.2.2.1.2), (Str.ofString "result", .int c.2.2.2.2.1.1 c.2.2.2.2.1.2), (Str.ofString "minimum", .int c.2.2.2.2.2.1 c.2.2.2.2.2.2)])
        (fun j c => IntsAre c.1 c.2.1 ∧ c.2.1 = rowH q p i j ∧ c.2.2.2.1.1 = D (q.take i) (p.take j) ∧ c.2.2.2.2.1.1 = (if j = 0 then 2 * (i : Int) else D (q.take (i + 1)) (p.take j)) ∧ ∀ k, k < j → c.2.2.2.2.2.1 ≤ D (q.take (i + 1)) (p.take (k + 1)))
        (vs, ns, nn, ((i : Int) * 2, _), ((i : Int) * 2, _), (9223372036854775807, _)) rfl hR (small_one (by omega) (by omega) (by omega) (by omega)) (by rw [rangeSize_nat]; omega) F9 N9 (by intro _ hq; exact hq) (by kst_all) ⟨hI, hns.trans (rowH_zero q p i).symm, ?_, ?_, fun k hk => absurd hk (by omega)⟩ ?_ ?_
      · show (i : Int) * 2 = D (q.take i) (p.take 0)
        rw [List.take_zero, D_nil', List.length_take]; omega
      · show (i : Int) * 2 = if 0 = 0 then 2 * (i : Int) else _
        rw [if_pos rfl]; omega
      · clear F9 N9 hR
        rename Fr _ _ _ _ => Fo
        rename News _ _ _ _ => No
        clear Fo No hI
        rintro ⟨vs, ns, nn, ⟨ds, td⟩, ⟨rs, tr⟩, ⟨mi, tmi⟩⟩ j t u h tk2 I2 oI2 hj ⟨hI, hns, hds, hrs, hmi⟩ hne2 F1 N1
        dsimp only at hI hns hds hrs hmi hne2 F1 N1 ⊢
        simp only [kstB, Int.zero_add] at F1
        simp only [List.cons_append, List.nil_append] at N1
        change Fr s.heap L' h _ at F1
        change News s.heap L' h _ at N1
        have gj : p[j]? = some p[j] := List.getElem?_eq_getElem hj
        have ej : Txt.item (S p) (j : Int) = ⟨#[p[j]]⟩ := item_S gj
        have hrI2 : @Ne Nat r I2 := hne2 _ (List.Mem.head _)
        have hII2 : @Ne Nat I I2 := hne2 _ (List.Mem.tail _ (List.Mem.head _))
        have alq : Al q[i] := axq _ (List.getElem_mem hi)
        have alp : Al p[j] := axp _ (List.getElem_mem hj)
        have hnl : ns.length = p.length := by rw [hns, rowH_len]
        obtain ⟨s1, s2, s3⟩ := row_step hi hj hns hds hrs rfl
        k_steps
        · rename _ < mi => hlt
          exact TurnEnd.intro (_, _, _, (_, _), (_, _), (_, _)) (by assumption) (by kst_all) (by assumption) (by intro _ hq; exact hq) (List.forall_mem_cons.mpr ⟨hrI2, List.forall_mem_cons.mpr ⟨hII2, List.forall_mem_nil _⟩⟩) ⟨by assumption, s3, s1, s2.trans (if_neg (Nat.succ_ne_zero j)).symm, min_step (f := fun k => D (q.take (i + 1)) (p.take (k + 1))) s2 hlt hmi⟩
        · rename ¬ _ < mi => hlt
          exact TurnEnd.intro (_, _, _, (_, _), (_, _), (_, _)) (by assumption) (by kst_all) (by assumption) (by intro _ hq; exact hq) (List.forall_mem_cons.mpr ⟨hrI2, List.forall_mem_cons.mpr ⟨hII2, List.forall_mem_nil _⟩⟩) ⟨by assumption, s3, s1, s2.trans (if_neg (Nat.succ_ne_zero j)).symm, min_keep (f := fun k => D (q.take (i + 1)) (p.take (k + 1))) s2 hlt hmi⟩
      · clear F9 N9 hR
        rename Fr _ _ _ _ => Fo
        rename News _ _ _ _ => No
        clear Fo No hI
        rintro ⟨vs, ns, nn, ⟨ds, td⟩, ⟨rs, tr⟩, ⟨mi, tmi⟩⟩ u h tk2 ⟨hI, hns, hds, hrs, hmi⟩ F1 N1
        dsimp only at hI hns hds hrs hmi F1 N1 ⊢
        simp only [kstB] at F1
        change Fr s.heap L' h _ at F1
        change News s.heap L' h _ at N1
        rw [if_neg (by omega), List.take_length] at hrs
        rw [rowH_all] at hns
        obtain ⟨k, hk, hle⟩ := row_least hpn (k := i + 1) (by omega) (by omega : i + 1 ≤ q.length)
        rw [hDqp] at hle
        have hmk := hmi k hk
        k_steps
        · refine IsI.of ?_
          rcases hmc with e | e <;> omega
        · exact TurnEnd.intro (vs, ns, nn, rs, tr) (by assumption) (by kst_all) (by assumption) (by intro _ hq; exact hq) (List.forall_mem_cons.mpr ⟨hrI, List.forall_mem_nil _⟩) ⟨by assumption, hns, fun _ => hrs⟩
    · rintro ⟨vs, ns, nn, rs, tr⟩ u h tk ⟨hI, hns, hrs⟩ F1 N1
      dsimp only at hrs F1 N1
      simp only [kstB] at F1
      have hq0 : 0 < q.length := by omega
      have e := hrs hq0
      rw [List.take_length, hDqp] at e
      refine CutPost.nx ?_
      refine AtE.intro tr F1 ?_ N1 (by simp) trivial
      rw [← e]
      kst_all
  clear F7 N7
  refine AtE.open ?_
  rintro t10 u8 h8 tk8 - F8 N8
  simp only [List.drop_succ_cons, List.drop_zero]
  simp only [kstB] at F8
  k_steps
  exact IsI.of rfl
end Mine

namespace Mine
set_option maxRecDepth 100000
set_option maxHeartbeats 4000000

local macro_rules | `(tactic| walk_at "mine_enter") => `(tactic| (
  k_dflt (refine' made_enter ?k1 ?k2 ?k3 ?k5 ?kA ?kF ?kK ?k6 ?k7 ?k8 ?k9 ?kB ?kh ?c2 ?c3 ?c4 ?c5 ?kr; (case kA => exact rfl); (case kF => exact rfl); (case kK => assumption); (case k1 => k_asm); (case k2 => k_asm); (case k3 => k_asm); (case k5 => k_asm); (case k6 => k_is); (case k7 => k_is); (case k8 => ktr_room); (case k9 => exact BindsTo.of_eq rfl); (case c5 => decide); (case kB => exact locs rfl); (case c2 => exact rfl); (case c3 => exact rfl); (case c4 => exact rfl); (case kr => assumption))))
local macro_rules | `(tactic| walk_at "LEnd") => `(tactic| (refine LEnd.intro (by assumption) (by assumption) ?_))
local macro_rules | `(tactic| walk_at "CutPost") => `(tactic| first | refine CutPost.nx ?_ | refine CutPost.rt ?_)
local macro_rules | `(tactic| walk_at "TurnPost") => `(tactic| first | refine TurnPost.nx ?_ | refine TurnPost.rt ?_)
local macro_rules | `(tactic| walk_at "pyIter ref") => `(tactic| refine Stop.out ?_)
local macro_rules | `(tactic| walk_at "exec For") => `(tactic| (k_here; (rename Fr _ _ _ _ => lF'); (with_unfolding_all refine' For_invVF lF' ?k1 ?k2 ?_; (case k1 => exact rfl); (case k2 => exact rfl); k_whole)))

/-- two paths: texts of the law's signs, that begin with a slash -/
structure TwoEnd (made : List (Addr × Obj)) (v : Value) : Prop where
  out : ∃ (a : Addr) (x y : List Nat) (t u : Tok), v = .ref a ∧ (a, ({ cls := .type "tuple", data := .seq #[.str (S x) t, .str (S y) u] } : Obj)) ∈ made ∧ x.length ≤ 7 ∧ y.length ≤ 9 ∧ (∀ c ∈ x, Al c) ∧ (∀ c ∈ y, Al c) ∧ y.head? = some 47

theorem sign_at {w : Str} {a b c d : Nat} (hw : w = S [a, b, c, d]) {m : Int} (h0 : 0 ≤ m) (h4 : m < 4) (aa : Al a) (ab : Al b) (ac : Al c) (ad : Al d) : ∃ e, Txt.item w m = S [e] ∧ Al e := by
  subst hw
  have hm : m = ((m.toNat : Nat) : Int) := by omega
  have h : m.toNat = 0 ∨ m.toNat = 1 ∨ m.toNat = 2 ∨ m.toNat = 3 := by omega
  rw [hm]
  rcases h with h | h | h | h <;> rw [h]
  · exact ⟨a, item_S rfl, aa⟩
  · exact ⟨b, item_S rfl, ab⟩
  · exact ⟨c, item_S rfl, ac⟩
  · exact ⟨d, item_S rfl, ad⟩
theorem al_app {l : List Nat} {c : Nat} (h : ∀ d ∈ l, Al d) (hc : Al c) : ∀ d ∈ l ++ [c], Al d := by
  intro d hd
  rcases List.mem_append.mp hd with q | q
  · exact h d q
  · rw [List.mem_singleton.mp q]; exact hc
theorem head_app {l r : List Nat} {c : Nat} (h : l.head? = some c) : (l ++ r).head? = some c := by
  cases l with
  | nil => cases h
  | cons a l => exact h

theorem two_ok {w : World} {mean : ExcName → Option Value} {mg mb : Str → Option Value} (l : Addr) (vs : List Value) (ns : List Int) (hI : IntsAre vs ns) (hlen : ns.length ≤ 63) :
    LClaim w mean mg mb 92 [.ref l] (fun h => h.IsList l vs.toArray) 2 TwoEnd := by
  w_on
  unfold LClaim
  k_fill
  intro dp un gd cn cs a ccd cl outer A₀ base h₀ L m s Q E B F X T hk hl hdp hun ret
  walk_at "mine_enter"
  clear B F X T ret
  intro L' h' F' N' B' X' T'
  try dsimp only
  k_steps
  refine ⟨?_⟩
  rename Fr _ _ _ _ => F9
  rename News _ _ _ _ => N9
  rename IntsAre _ (List.take 5 ns) => hI5
  rename_i D1 ws1 h4 hC hL l1
  have ea : Str.ofString "/a" = S [47, 97] := by decide +kernel
  rw [ea] at F9
  refine list_at (fun _ => [(D1, listOf ws1.toArray 0)])
    (fun c : (List Nat × Tok) × (List Nat × Tok) => [(Str.ofString "script", .ref l), (Str.ofString "base", .str (S c.1.1) c.1.2), (Str.ofString "test", .str (S c.2.1) c.2.2)])
    (fun i c => c.1.1.length ≤ 2 + i ∧ c.2.1.length ≤ 2 + i ∧ (∀ d ∈ c.1.1, Al d) ∧ (∀ d ∈ c.2.1, Al d) ∧ c.2.1.head? = some 47)
    (([47, 97], _), ([47, 97], _)) rfl (fun _ => List.Mem.head _) hI5 F9 N9 (List.forall_mem_cons.mpr ⟨List.Mem.head _, List.forall_mem_nil _⟩) (by kst_all) ⟨by simp, by simp, by simp [Al], by simp [Al], rfl⟩ ?_ ?_
  · clear F9 N9
    rintro ⟨⟨bx, tb⟩, ⟨tx, tt⟩⟩ i k t u h tk I oI hk ⟨hb, ht, ab, at', hh⟩ hne F1 N1
    dsimp only at hb ht ab at' hh hne F1 N1 ⊢
    simp only [kstB] at F1
    simp only [List.cons_append, List.nil_append] at N1
    change Fr s.heap L' h _ at F1
    change News s.heap L' h _ at N1
    have hi5 : i < 5 := by
      have := (List.getElem?_eq_some_iff.mp hk).1
      rw [List.length_take] at this; omega
    have l1 : (S bx).length ≤ 20 := by rw [S_len]; omega
    have l2 : (S tx).length ≤ 20 := by rw [S_len]; omega
    have hm0 : 0 ≤ (k.fdiv 4).fmod 4 := Int.fmod_nonneg_of_pos _ (by decide)
    have hm4 : (k.fdiv 4).fmod 4 < 4 := Int.fmod_lt_of_pos _ (by decide)
    obtain ⟨c1, e1, a1⟩ := sign_at (w := Str.ofString "/aAb") (a := 47) (b := 97) (c := 65) (d := 98) (by decide +kernel) hm0 hm4 (by simp [Al]) (by simp [Al]) (by simp [Al]) (by simp [Al])
    obtain ⟨c2, e2, a2⟩ := sign_at (w := Str.ofString "/AaB") (a := 47) (b := 65) (c := 97) (d := 66) (by decide +kernel) hm0 hm4 (by simp [Al]) (by simp [Al]) (by simp [Al]) (by simp [Al])
    have ab1 := al_app ab a1
    have at1 := al_app at' a1
    have at2 := al_app at' a2
    have hh1 := head_app (r := [c1]) hh
    have hh2 := head_app (r := [c2]) hh
    have lb0 : bx.length ≤ 2 + (i + 1) := by omega
    have lb1 : (bx ++ [c1]).length ≤ 2 + (i + 1) := by rw [List.length_append, List.length_singleton]; omega
    have lt0 : tx.length ≤ 2 + (i + 1) := by omega
    have lt1 : (tx ++ [c1]).length ≤ 2 + (i + 1) := by rw [List.length_append, List.length_singleton]; omega
    have lt2 : (tx ++ [c2]).length ≤ 2 + (i + 1) := by rw [List.length_append, List.length_singleton]; omega
    have hDI : @Ne Nat D1 I := hne _ (List.Mem.head _)
    k_steps
    all_goals (
      rename Fr _ _ _ _ => FF
      try simp only [e1, e2, S_app] at FF
      exact TurnEnd.intro ((_, _), (_, _)) FF (by kst_all) (by assumption) (List.forall_mem_cons.mpr ⟨by k_memK, List.forall_mem_cons.mpr ⟨by k_memK, List.forall_mem_nil _⟩⟩) (List.forall_mem_cons.mpr ⟨hDI, List.forall_mem_nil _⟩) ⟨by assumption, by assumption, by assumption, by assumption, by assumption⟩)
  · clear F9 N9
    rintro ⟨⟨bx, tb⟩, ⟨tx, tt⟩⟩ u h tk ⟨hb, ht, ab, at', hh⟩ F1 N1
    dsimp only at hb ht ab at' hh F1 N1 ⊢
    simp only [kstB] at F1
    change Fr s.heap L' h _ at F1
    change News s.heap L' h _ at N1
    have hl5 : (List.take 5 ns).length ≤ 5 := by rw [List.length_take]; omega
    have l1 : (S bx).length ≤ 20 := by rw [S_len]; omega
    have l2 : (S tx).length ≤ 20 := by rw [S_len]; omega
    have eb : Str.ofString "/b" = S [47, 98] := by decide +kernel
    have at2 : ∀ d ∈ tx ++ [47, 98], Al d := by
      intro d hd
      rcases List.mem_append.mp hd with q | q
      · exact at' d q
      · simp only [List.mem_cons, List.not_mem_nil, or_false] at q
        rcases q with rfl | rfl <;> simp [Al]
    have hh2 := head_app (r := [47, 98]) hh
    have lt2 : (tx ++ [47, 98]).length ≤ 9 := by rw [List.length_append]; simp only [List.length_cons, List.length_nil]; omega
    k_steps
    · rw [eb, S_app]
      exact ⟨_, bx, _, _, _, rfl, List.Mem.head _, by omega, lt2, ab, at2, hh2⟩
    · exact ⟨_, bx, tx, _, _, rfl, List.Mem.head _, by omega, by omega, ab, at', hh⟩
end Mine

namespace Mine
set_option maxRecDepth 100000
set_option maxHeartbeats 4000000

local macro_rules | `(tactic| walk_at "mine_enter") => `(tactic| (
  k_dflt (refine' made_enter ?k1 ?k2 ?k3 ?k5 ?kA ?kF ?kK ?k6 ?k7 ?k8 ?k9 ?kB ?kh ?c2 ?c3 ?c4 ?c5 ?kr; (case kA => exact rfl); (case kF => exact rfl); (case kK => assumption); (case k1 => k_asm); (case k2 => k_asm); (case k3 => k_asm); (case k5 => k_asm); (case k6 => k_is); (case k7 => k_is); (case k8 => ktr_room); (case k9 => exact BindsTo.of_eq rfl); (case c5 => decide); (case kB => exact locs rfl); (case c2 => exact rfl); (case c3 => exact rfl); (case c4 => exact rfl); (case kr => assumption))))
local macro_rules | `(tactic| walk_at "LEnd") => `(tactic| (refine LEnd.intro (by assumption) (by assumption) ?_))
local macro_rules | `(tactic| walk_at "CutPost") => `(tactic| first | refine CutPost.nx ?_ | refine CutPost.rt ?_)
local macro_rules | `(tactic| walk_at "TurnPost") => `(tactic| first | refine TurnPost.nx ?_ | refine TurnPost.rt ?_)
local macro_rules | `(tactic| walk_at "pyIter str") => `(tactic| refine Stop.out ?_)
local macro_rules | `(tactic| walk_at "exec For") => `(tactic| (k_here; (rename Fr _ _ _ _ => lF'); (with_unfolding_all refine' For_invVF lF' ?k1 ?k2 ?_; (case k1 => exact rfl); (case k2 => exact rfl); k_whole)))

local macro_rules | `(tactic| walk_at "pyIter ref") => `(tactic| refine Stop.out ?_)

/-- the prices of a beginning of x for every beginning of y -/
def prices (x y : List Nat) (i : Nat) : List Int := (List.range (y.length + 1)).map fun (j : Nat) => D (x.take i) (y.take j)
theorem prices_len (x y : List Nat) (i : Nat) : (prices x y i).length = y.length + 1 := by simp [prices]
theorem prices_at {x y : List Nat} {i j : Nat} (h : j < y.length + 1) : (prices x y i)[j]? = some (D (x.take i) (y.take j)) := by simp [prices, h]
theorem prices_zero (x y : List Nat) : prices x y 0 = List.map (fun k' => 2 * k') (rangeKs 0 (y.length + 1)) := by
  unfold prices rangeKs
  rw [List.map_map]
  refine List.map_congr_left fun j hj => ?_
  have : j < y.length + 1 := List.mem_range.mp hj
  rw [List.take_zero, D_nil, List.length_take]
  simp only [Function.comp]
  omega

theorem prices_one (x y : List Nat) (i : Nat) : (prices x y i).take (0 + 1) = [D (x.take i) (y.take 0)] := by
  rw [List.take_add_one, prices_at (by omega)]
  rfl
theorem price_step {x y : List Nat} {i j d : Nat} {ms : List Int} (hid : x[i]? = some d) (hj : j < y.length) (hms : ms = (prices x y (i + 1)).take (j + 1)) :
    min ((prices x y i).getD ((j : Int)).toNat 0 + sc d y[j]) (min ((prices x y i).getD ((j : Int) + 1).toNat 0 + 2) (ms.getD ((j : Int)).toNat 0 + 2)) = D (x.take (i + 1)) (y.take (j + 1)) := by
  have e1 : ((j : Int)).toNat = j := by omega
  have e2 : ((j : Int) + 1).toNat = j + 1 := by omega
  have gj : y[j]? = some y[j] := List.getElem?_eq_getElem hj
  rw [e1, e2, List.getD_eq_getElem?_getD, List.getD_eq_getElem?_getD, List.getD_eq_getElem?_getD, prices_at (by omega), prices_at (by omega), hms, List.getElem?_take, if_pos (by omega), prices_at (by omega)]
  simp only [Option.getD_some]
  have hs := D_snoc (x.take i) (y.take j) d y[j]
  rw [← take_snoc hid, ← take_snoc gj] at hs
  exact hs.symm
theorem prices_more {x y : List Nat} {i j : Nat} {ms : List Int} {v : Int} (hj : j < y.length) (hms : ms = (prices x y (i + 1)).take (j + 1)) (hv : v = D (x.take (i + 1)) (y.take (j + 1))) : ms ++ [v] = (prices x y (i + 1)).take (j + 1 + 1) := by
  rw [List.take_add_one (l := prices x y (i + 1)) (i := j + 1), prices_at (by omega), ← hms, hv]
  rfl
abbrev Row := Addr × List Value × Nat
def refs (rows : List Row) : List Value := rows.map fun r => .ref r.1
def objs (rows : List Row) : List (Addr × Obj) := rows.map fun r => (r.1, listOf r.2.1.toArray r.2.2)

/-- the table: a list of rows, each a list of prices -/
theorem execs_one' {M : Model} {A : Around} {E : Value → Shared → Prop} {env : Env} {Q : Flow → Shared → Prop} {st : Stmt} {s : Shared} (h : wpAny M A (exec st env) Q E s) : wpAny M A (execs [st] env) Q E s :=
  wpAny_execs_cons (wpAny_mono h (fun f s' q => by cases f <;> first | exact q | exact wpAny_execs_nil q) fun _ _ x => x)
structure TabEnd (x y : List Nat) (made : List (Addr × Obj)) (v : Value) : Prop where
  out : ∃ (tbl : Addr) (rows : List Row) (tn : Nat), v = .ref tbl ∧ (tbl, listOf (refs rows).toArray tn) ∈ made ∧ rows.length = x.length + 1 ∧ (∀ r ∈ rows, (r.1, listOf r.2.1.toArray r.2.2) ∈ made) ∧ ∀ k r, rows[k]? = some r → IntsAre r.2.1 (prices x y k)

section
variable {prog : Program} {w : World} {A : Around} {E : Value → Shared → Prop} {s : Shared} {h₀ : Heap} {L : Addr} {m : Str → Option Value} {news : List (Addr × Obj)} {Q : Value → Shared → Prop}
theorem item_last {value slice : PySem.Expr} {tbl : Addr} {rl : List Value} {tn : Nat} {v : Value} {u : Tok} (N : News h₀ L s.heap news) (hm : (tbl, listOf rl.toArray tn) ∈ news) (hl : rl.getLast? = some v) (hlen : rl.length ≤ 1000) (h : Q v s)
    (hs : subscripted slice false (.ref tbl) (.int (-1) u) = operate [.ref tbl, .int (-1) u] (getItem (.ref tbl) (.int (-1) u)) := by with_unfolding_all rfl) :
    wpAny (model prog w) A (subscriptTail value slice (.ref tbl) (.int (-1) u)) Q E s := by
  have hl' : s.heap.IsList tbl rl.toArray := ⟨_, (N _ hm).1, rfl, tn, rfl⟩
  have hne : rl ≠ [] := by intro e; rw [e] at hl; cases hl
  have hpos : 0 < rl.length := List.length_pos_iff.mpr hne
  refine tail_any hl'.typeIs slot_list_getitem.lookup (wpAny_getItem_list_neg hl' (by decide) (by simp; omega) (by decide) ?_ h) hs
  rw [List.getLast?_eq_getElem?] at hl
  have e : (-1 + (rl.toArray.size : Int)).toNat = rl.length - 1 := by simp; omega
  rw [e]
  simpa using hl
theorem min3_N {a b c : Int} {t u x : Tok} (F : Fr h₀ L s.heap m) (N : News h₀ L s.heap news) (hh : A.handled = none)
    (h : ∀ h' tk t', Fr h₀ L h' m → News h₀ L h' news → Q (.int (min a (min b c)) t') { s with heap := h', toks := tk }) :
    wpAny (model prog w) A (call (.builtin "min") [.int a t, .int b u, .int c x]) Q E s := by
  refine min_three_ints hh fun h' tk hk => ?_
  have F' := Fr.stays F hk
  have N' := News.stays N hk
  by_cases h1 : b < a
  · rw [if_pos h1]
    by_cases h2 : c < b
    · rw [if_pos h2]
      have e : min a (min b c) = c := by omega
      have := h h' tk x F' N'; rw [e] at this; exact this
    · rw [if_neg h2]
      have e : min a (min b c) = b := by omega
      have := h h' tk u F' N'; rw [e] at this; exact this
  · rw [if_neg h1]
    by_cases h2 : c < a
    · rw [if_pos h2]
      have e : min a (min b c) = c := by omega
      have := h h' tk x F' N'; rw [e] at this; exact this
    · rw [if_neg h2]
      have e : min a (min b c) = a := by omega
      have := h h' tk t F' N'; rw [e] at this; exact this
end
local macro_rules | `(tactic| walk_at "subscriptTail") => `(tactic| (k_here; (with_reducible show wpAny _ _ (subscriptTail _ _ (Value.ref _) (Value.int (-1) _)) _ _ _); k_dflt (refine' item_last ?k1 ?k2 ?k3 ?k4 ?_ ?k7; (case k1 => k_asm); (case k2 => k_mem); (case k3 => with_reducible assumption); (case k4 => omega); (case k7 => with_unfolding_all rfl); k_whole)))
local macro_rules | `(tactic| walk_at "call builtin:min") => `(tactic| (k_here; (with_reducible show wpAny _ _ (call (Value.builtin _) [Value.int _ _, Value.int _ _, Value.int _ _]) _ _ _); k_dflt (refine' min3_N ?k1 ?k2 ?k3 ?_; (case k1 => k_asm); (case k2 => k_asm); (case k3 => rfl); k_whole); intro h' tk' t' F' N'; (try k_sweep)))

theorem cost_use {w : World} {mean : ExcName → Option Value} {mg mb : Str → Option Value} {xs ys : Str} {tx ty : Tok} {c d : Nat} {dp un : Nat} {gd : Option (List Code)} {cn : Str} {cs : Scope} {a : Addr} {ccd : Value} {cl : List (Str × Addr)} {outer : List Env} {A₀ : Around} {base h₀ : Heap} {L : Addr} {m : Str → Option Value} {s : Shared} {Q E : Value → Shared → Prop}
    (B : Below A₀ base outer h₀) (F : Fr h₀ L s.heap m) (X : (hd.heap_39 w.params).In h₀) (T : Top hd.view_39 (looseW hd.view_39 []) mean mg mb h₀) (hk : cs.kind = .function) (e1 : xs = ⟨#[c]⟩) (e2 : ys = ⟨#[d]⟩) (hc : Al c) (hd : Al d)
    (hdp : dp + 1 < recursionLimit) (hun : un + 8 * 1 < cLine) (ret : ∀ t h' tk', s.heap.StaysIn h' → Q (.int (sc c d) t) { s with heap := h', toks := tk' }) :
    wpAny (model PySem.Challenge.rw_pe0132_01.row.prog w) (ktrTop dp un gd cn cs L a ccd cl outer) (call (.ref 99) [.str xs tx, .str ys ty]) Q E s := by
  subst e1 e2
  refine law_cost_ok c d tx ty hc hd dp un gd cn cs a ccd cl outer A₀ base h₀ L m s Q E B F X T hk trivial hdp hun fun v h' tk' st hv => ?_
  obtain ⟨t, rfl⟩ := hv.out
  exact ret t h' tk' st
local macro_rules | `(tactic| walk_at "call ref") => `(tactic| (k_here; (rename Fr _ _ _ _ => lF'); (rename News _ _ _ _ => lN'); (k_dflt (refine' cost_use ?k1 lF' ?k3 ?k4 ?k5 ?e1 ?e2 ?a1 ?a2 ?kd ?ku ?_; (case k1 => k_asm); (case k3 => k_asm); (case k4 => k_asm); (case k5 => first | exact rfl | assumption); (case e1 => first | with_reducible assumption | with_reducible rfl); (case e2 => first | with_reducible assumption | with_reducible rfl); (case a1 => assumption); (case a2 => assumption); (case kd => ktr_room); (case ku => ktr_units))); intro t' h' tk' st'; (have F' := Mine.Fr.stays lF' st'); (have N' := Mine.News.stays lN' st'); clear lF' lN' st'; (try dsimp only)))

theorem table_ok {w : World} {mean : ExcName → Option Value} {mg mb : Str → Option Value} (x y : List Nat) (tx ty : Tok) (hx : x.length ≤ 20) (hy : y.length ≤ 20) (ax : ∀ c ∈ x, Al c) (ay : ∀ c ∈ y, Al c) :
    LClaim w mean mg mb 104 [.str (S x) tx, .str (S y) ty] (fun _ => True) 3 (TabEnd x y) := by
  w_on
  unfold LClaim
  k_fill
  intro dp un gd cn cs a ccd cl outer A₀ base h₀ L m s Q E B F X T hk _ hdp hun ret
  walk_at "mine_enter"
  clear B F X T ret
  intro L' h' F' N' B' X' T'
  try dsimp only
  have lx : (S x).length = x.length := S_len x
  have ly : (S y).length = y.length := S_len y
  have hx' : (S x).length ≤ 20 := by omega
  have hy' : (S y).length ≤ 20 := by omega
  k_steps
  refine ⟨?_⟩
  rename Fr _ _ _ _ => F9
  rename News _ _ _ _ => N9
  rename IntsAre _ _ => hI0
  rename_i D1 h1 tk1 o1 tbl h2 hlt h3
  have e0 : (((S y).length : Int) + 1 - 0).toNat = y.length + 1 := by omega
  rw [e0, ← prices_zero x y] at hI0
  refine text_at (fun c : List Row × Row × Nat => (tbl, listOf (refs c.1 ++ [Value.ref c.2.1.1]).toArray c.2.2) :: (c.2.1.1, listOf c.2.1.2.1.toArray c.2.1.2.2) :: objs c.1)
    (fun _ => [(Str.ofString "base", .str (S x) tx), (Str.ofString "test", .str (S y) ty), (Str.ofString "table", .ref tbl)])
    (fun i c => c.1.length = i ∧ IntsAre c.2.1.2.1 (prices x y i) ∧ (∀ k r, c.1[k]? = some r → IntsAre r.2.1 (prices x y k)) ∧ OwnOff (objs c.1) [tbl] ∧ @Ne Nat c.2.1.1 tbl)
    ([], (D1, ys, ys.length), 0) rfl (fun c hc => (ax c hc).lt) F9 N9 (by intro _ hq; exact hq) (by kst_all) ⟨rfl, hI0, fun k r h => by simp at h, fun p hp => by simp [objs] at hp, by show @Ne Nat D1 tbl; have := hlt; omega⟩ ?_ ?_
  · clear F9 N9 hI0
    rintro ⟨pre, ⟨a1, vs, nn⟩, tn⟩ i d t u h tk I oI hid ⟨hi, hI, hpre, hoff, hne1⟩ hne F1 N1
    dsimp only at hi hI hpre hoff hne1 hne F1 N1 ⊢
    simp only [kstB] at F1
    simp only [List.cons_append] at N1
    change Fr s.heap L' h _ at F1
    change News s.heap L' h _ at N1
    have hilt : i < x.length := (List.getElem?_eq_some_iff.mp hid).1
    have ald : Al d := ax d (List.mem_of_getElem? hid)
    have hlast : (refs pre ++ [Value.ref a1]).getLast? = some (.ref a1) := by simp
    have hrlen : (refs pre ++ [Value.ref a1]).length ≤ 21 := by simp [refs]; omega
    generalize hrl : refs pre ++ [Value.ref a1] = rl at N1 hlast hrlen
    have htI : @Ne Nat tbl I := hne _ (List.Mem.head _)
    have haI : @Ne Nat a1 I := hne _ (List.Mem.tail _ (List.Mem.head _))
    have hoff2 : OwnOff (objs pre ++ [(I, oI)]) [tbl] := by
      intro p hp b hb
      rcases List.mem_append.mp hp with q | q
      · exact hoff p q b hb
      · rw [List.mem_singleton.mp q, List.mem_singleton.mp hb]; exact fun e => htI e.symm
    generalize htl : objs pre ++ [(I, oI)] = tail at N1 hoff2
    have hvl : (prices x y i).length = y.length + 1 := prices_len x y i
    have e00 : (prices x y i).getD (Int.toNat 0) 0 + 2 = D (x.take (i + 1)) (y.take 0) := by
      rw [show Int.toNat 0 = 0 from rfl, List.getD_eq_getElem?_getD, prices_at (by omega), Option.getD_some]
      rw [List.take_zero, D_nil', D_nil', List.length_take, List.length_take]
      omega
    refine execs_split 2 (AtE s.heap s L' (fun c : Addr × Tok => (c.1, listOf [Value.int (D (x.take (i + 1)) (y.take 0)) c.2].toArray 0) :: (tbl, listOf rl.toArray tn) :: (a1, listOf vs.toArray nn) :: tail)
      (fun c => [(Str.ofString "test", .str (S y) ty), (Str.ofString "table", .ref tbl), (Str.ofString "base", .str (S x) tx), (Str.ofString "sign", .str ⟨#[d]⟩ t), (Str.ofString "above", .ref a1), (Str.ofString "row", .ref c.1)])
      (fun c => @LT.lt Nat _ tbl c.1 ∧ @LT.lt Nat _ a1 c.1 ∧ AllLt c.1 tail)) ?_ ?_
    · simp only [List.take_succ_cons, List.take_zero]
      k_steps
      rename News _ _ _ _ => NN
      rw [e00] at NN
      exact AtE.intro (_, _) (by assumption) (by kst_all) NN (by intro _ hq; exact hq) (by assumption)
    clear F1 N1
    refine AtE.open ?_
    rintro ⟨R, tR⟩ u2 h5 tk5 ⟨hR1, hR2, hR3⟩ F2 N2
    simp only [List.drop_succ_cons, List.drop_zero]
    dsimp only at hR1 hR2 hR3 F2 N2
    simp only [kstB] at F2
    have hoffR : OwnOff tail [R] := by
      intro p hp b hb
      rw [List.mem_singleton.mp hb]
      exact Nat.ne_of_lt (kst_ltOf hR3 p hp)
    refine execs_split 1 (AtE s.heap s L' (fun c : List Value × Nat => (R, listOf c.1.toArray c.2) :: (tbl, listOf rl.toArray tn) :: (a1, listOf vs.toArray nn) :: tail)
      (fun c => [(Str.ofString "test", .str (S y) ty), (Str.ofString "table", .ref tbl), (Str.ofString "base", .str (S x) tx), (Str.ofString "row", .ref R)])
      (fun c => IntsAre c.1 (prices x y (i + 1)))) ?_ ?_
    · simp only [List.take_succ_cons, List.take_zero]
      refine execs_one' ?_
      k_steps
      refine ⟨?_⟩
      rename IsRange _ _ _ _ _ _ _ _ => hR
      rename Fr _ _ _ _ => F9
      rename News _ _ _ _ => N9
      refine range_at (n := y.length) (fun c : List Value × List Int × Nat => (R, listOf c.1.toArray c.2.2) :: (tbl, listOf rl.toArray tn) :: (a1, listOf vs.toArray nn) :: tail)
        (fun c => [(Str.ofString "test", .str (S y) ty), (Str.ofString "table", .ref tbl), (Str.ofString "base", .str (S x) tx), (Str.ofString "sign", .str ⟨#[d]⟩ t), (Str.ofString "above", .ref a1), (Str.ofString "row", .ref R)])
        (fun j c => IntsAre c.1 c.2.1 ∧ c.2.1 = (prices x y (i + 1)).take (j + 1)) ([Value.int (D (x.take (i + 1)) (y.take 0)) tR], [D (x.take (i + 1)) (y.take 0)], 0) rfl hR (small_one (by omega) (by omega) (by omega) (by omega)) (by rw [rangeSize_nat]; omega) F9 N9 (by intro _ hq; exact hq) (by kst_all) ⟨.cons _ _ .nil, ?_⟩ ?_ ?_
      · exact (prices_one x y (i + 1)).symm
      · clear F9 N9 hR
        rename Fr _ _ _ _ => Fo
        rename News _ _ _ _ => No
        clear Fo No
        rintro ⟨ws, ms, nw⟩ j t u h tk2 I2 oI2 hj ⟨hIw, hms⟩ hne2 F1 N1
        dsimp only at hIw hms hne2 F1 N1 ⊢
        simp only [kstB, Int.zero_add] at F1
        simp only [List.cons_append] at N1
        change Fr s.heap L' h _ at F1
        change News s.heap L' h _ at N1
        have hRI : @Ne Nat R I2 := hne2 _ (List.Mem.head _)
        have hoffR2 : OwnOff (tail ++ [(I2, oI2)]) [R] := by
          intro p hp b hb
          rcases List.mem_append.mp hp with q | q
          · exact hoffR p q b hb
          · rw [List.mem_singleton.mp q, List.mem_singleton.mp hb]; exact fun e => hRI e.symm
        generalize htl2 : tail ++ [(I2, oI2)] = tail2 at N1 hoffR2
        have gj : y[j]? = some y[j] := List.getElem?_eq_getElem hj
        have ej : Txt.item (S y) (j : Int) = ⟨#[y[j]]⟩ := item_S gj
        have alj : Al y[j] := ay _ (List.getElem_mem hj)
        have hml : ms.length = j + 1 := by rw [hms, List.length_take, prices_len]; omega
        have hval := price_step hid hj hms
        k_steps
        rename News _ _ _ _ => NN
        rw [hval, List.push_toArray] at NN
        refine TurnEnd.intro (ws ++ [Value.int _ _], ms ++ [_], nw + 1) (by assumption) (by kst_all) NN (by intro p hq; rw [← htl2]; exact hq) ?_ ⟨IntsAre.append hIw (.cons _ _ .nil), prices_more hj hms rfl⟩
        intro p hq
        rcases List.mem_cons.mp hq with e | hq
        · rw [e]; exact hRI
        · exact hne2 p (List.mem_cons_of_mem _ hq)
      · clear F9 N9 hR
        rename Fr _ _ _ _ => Fo
        rename News _ _ _ _ => No
        clear Fo No
        rintro ⟨ws, ms, nw⟩ u h tk2 ⟨hIw, hms⟩ F1 N1
        dsimp only at hIw hms F1 N1
        simp only [kstB] at F1
        rw [List.take_of_length_le (by rw [prices_len]; omega)] at hms
        rw [hms] at hIw
        exact CutPost.nx (AtE.intro (ws, nw) F1 (by kst_all) N1 (by intro _ hq; exact hq) hIw)
    clear F2 N2
    refine AtE.open ?_
    rintro ⟨ws, nw⟩ u3 h6 tk6 hIw F3 N3
    simp only [List.drop_succ_cons, List.drop_zero]
    dsimp only at hIw F3 N3
    simp only [kstB] at F3
    have hRt : @Ne Nat R tbl := by omega
    k_steps
    refine append_K (by assumption) (by assumption) (Upd.tail hRt (Upd.head (List.forall_mem_cons.mpr ⟨hne1, fun p hp => hoff2 p hp tbl (List.Mem.head _)⟩))) ?_ (by rw [List.size_toArray, sizeLine_eq]; omega)
    intro h7 F7 N7
    k_steps
    rename News _ _ _ _ => NN
    rw [List.push_toArray] at NN
    have hIR : @Ne Nat R I := by
      have := kst_ltOf hR3 (I, oI) (by rw [← htl]; simp)
      intro e; rw [e] at this; exact Nat.lt_irrefl _ this
    refine TurnEnd.intro (pre ++ [(a1, vs, nn)], (R, ws, nw), tn + 1) (by assumption) (by kst_all) NN ?_ ?_ ⟨?_, hIw, ?_, ?_, hRt⟩
    · intro p hq
      have er : refs (pre ++ [(a1, vs, nn)]) = rl := by rw [← hrl]; simp [refs]
      have eo : objs (pre ++ [(a1, vs, nn)]) = objs pre ++ [(a1, listOf vs.toArray nn)] := by simp [objs]
      dsimp only at hq
      rw [er, eo, ← hrl] at hq
      rw [← htl, ← hrl]
      simp only [List.cons_append, List.mem_cons, List.mem_append, List.not_mem_nil, or_false] at hq ⊢
      rcases hq with e | e | (e | e) | e
      · exact .inr (.inl e)
      · exact .inl e
      · exact .inr (.inr (.inr (.inl e)))
      · exact .inr (.inr (.inl e))
      · exact .inr (.inr (.inr (.inr e)))
    · intro p hq
      have eo : objs (pre ++ [(a1, vs, nn)]) = objs pre ++ [(a1, listOf vs.toArray nn)] := by simp [objs]
      dsimp only at hq
      rw [eo] at hq
      simp only [List.mem_cons, List.mem_append, List.not_mem_nil, or_false] at hq
      rcases hq with e | e | e | e
      · rw [e]; exact htI
      · rw [e]; exact hIR
      · exact hne p (List.mem_cons_of_mem _ (List.mem_cons_of_mem _ e))
      · rw [e]; exact haI
    · show (pre ++ [(a1, vs, nn)]).length = i + 1
      rw [List.length_append, List.length_singleton, hi]
    · intro k r hr
      dsimp only at hr
      by_cases e : k < pre.length
      · rw [List.getElem?_append_left e] at hr; exact hpre k r hr
      · rw [List.getElem?_append_right (by omega)] at hr
        have hk0 : k - pre.length = 0 := by
          have := (List.getElem?_eq_some_iff.mp hr).1
          simp at this; omega
        rw [hk0] at hr
        have er : (a1, vs, nn) = r := by simpa using hr
        have ek : k = i := by omega
        rw [← er, ek]; exact hI
    · intro p hp b hb
      have eo : objs (pre ++ [(a1, vs, nn)]) = objs pre ++ [(a1, listOf vs.toArray nn)] := by simp [objs]
      dsimp only at hp
      rw [eo] at hp
      rcases List.mem_append.mp hp with q | q
      · exact hoff p q b hb
      · rw [List.mem_singleton.mp q, List.mem_singleton.mp hb]; exact hne1
  · clear F9 N9 hI0
    rintro ⟨pre, ⟨a1, vs, nn⟩, tn⟩ u h tk ⟨hi, hI, hpre, hoff, hne1⟩ F1 N1
    dsimp only at hi hI hpre hoff hne1 F1 N1
    simp only [kstB] at F1
    change Fr s.heap L' h _ at F1
    change News s.heap L' h _ at N1
    k_steps
    refine ⟨tbl, pre ++ [(a1, vs, nn)], tn, rfl, ?_, ?_, ?_, ?_⟩
    · have er : refs (pre ++ [(a1, vs, nn)]) = refs pre ++ [Value.ref a1] := by simp [refs]
      rw [er]; exact List.Mem.head _
    · rw [List.length_append, List.length_singleton, hi]
    · intro r hr
      rcases List.mem_append.mp hr with q | q
      · exact List.Mem.tail _ (List.Mem.tail _ (List.mem_map.mpr ⟨r, q, rfl⟩))
      · rw [List.mem_singleton.mp q]; exact List.Mem.tail _ (List.Mem.head _)
    · intro k r hr
      by_cases e : k < pre.length
      · rw [List.getElem?_append_left e] at hr; exact hpre k r hr
      · rw [List.getElem?_append_right (by omega)] at hr
        have hk0 : k - pre.length = 0 := by
          have := (List.getElem?_eq_some_iff.mp hr).1
          simp at this; omega
        rw [hk0] at hr
        have er : (a1, vs, nn) = r := by simpa using hr
        have ek : k = x.length := by omega
        rw [← er, ek]; exact hI
end Mine

namespace Mine
set_option maxRecDepth 100000
set_option maxHeartbeats 8000000

def lawDef : List Stmt × Scope := match PySem.Challenge.pw_pe0132_01.main.body with
  | _ :: _ :: _ :: _ :: _ :: _ :: _ :: _ :: _ :: _ :: _ :: _ :: _ :: .FunctionDef _ _ b _ _ _ sc _ _ _ :: _ => (b, sc)
  | _ => ([], PySem.Challenge.pw_pe0132_01.main.scope)
def turnOne : List Stmt := match lawDef.1 with
  | _ :: _ :: _ :: .For _ _ [.For _ _ b _ _] _ _ :: _ => b
  | _ => []

local macro_rules | `(tactic| walk_at "CutPost") => `(tactic| first | refine CutPost.nx ?_ | refine CutPost.rt ?_)
local macro_rules | `(tactic| walk_at "pyIter ref") => `(tactic| refine Stop.out ?_)
local macro_rules | `(tactic| walk_at "call ref") => `(tactic| (k_here; (with_reducible show wpAny _ _ (call (Value.ref 78) _) _ _ _); refine Stop.out ?_))
theorem item_at {prog : Program} {w : World} {A : Around} {E : Value → Shared → Prop} {s : Shared} {h₀ : Heap} {L : Addr} {news : List (Addr × Obj)} {Q : Value → Shared → Prop} {value slice : PySem.Expr} {tbl : Addr} {rl : List Value} {tn : Nat} {k : Int} {v : Value} {u : Tok}
    (N : News h₀ L s.heap news) (hm : (tbl, listOf rl.toArray tn) ∈ news) (hl : rl[k.toNat]? = some v) (h0 : 0 ≤ k) (h1 : k < 2 ^ 63) (h : Q v s)
    (hs : subscripted slice false (.ref tbl) (.int k u) = operate [.ref tbl, .int k u] (getItem (.ref tbl) (.int k u)) := by with_unfolding_all rfl) :
    wpAny (model prog w) A (subscriptTail value slice (.ref tbl) (.int k u)) Q E s := by
  have hl' : s.heap.IsList tbl rl.toArray := ⟨_, (N _ hm).1, rfl, tn, rfl⟩
  exact tail_any hl'.typeIs slot_list_getitem.lookup (wpAny_getItem_list hl' h0 h1 (by simpa using hl) h) hs
local macro_rules | `(tactic| walk_at "subscriptTail") => `(tactic| (k_here; (with_reducible show wpAny _ _ (subscriptTail _ _ (Value.ref _) (Value.int _ _)) _ _ _); k_dflt (refine' item_at ?k1 ?k2 ?k3 ?k4 ?k5 ?_ ?k7; (case k1 => k_asm); (case k2 => k_mem); (case k3 => with_reducible assumption); (case k4 => omega); (case k5 => omega); (case k7 => with_unfolding_all rfl); k_whole)))
local macro_rules | `(tactic| walk_at "mine_step") => `(tactic| (first | (k_unfold; (try dsimp only)) | (k_end; wrow_close) | walk1 | (dsimp only; walk1) | (leave1; walk_say "STEP leave1"; try dsimp only) | fail "no step"))

/-- a way that no run goes; the walk leaves it to us -/
structure Never : Prop where
  out : False
theorem CutPost.never {I : Shared → Prop} {f : Flow} {s' : Shared} (h : CutPost I (fun _ _ => Never) f s') : CutPost I (fun _ _ => False) f s' := by
  cases f with
  | next => exact ⟨CutPost.out (f := .next) h⟩
  | ret v => exact ⟨(CutPost.out (f := .ret v) h).out⟩
  | brk => exact ⟨(CutPost.out (f := .brk) h).out⟩
  | cont => exact ⟨(CutPost.out (f := .cont) h).out⟩
theorem price_at {x y : List Nat} {i : Nat} (hi : i ≤ y.length) : (prices x y i).getD ((i : Int)).toNat 0 = D (x.take i) (y.take i) := by
  have e : ((i : Int)).toNat = i := by omega
  rw [e, List.getD_eq_getElem?_getD, prices_at (by omega)]
  rfl
theorem pre_take {a b : List Nat} (h : a <+: b) : a = b.take a.length := (List.prefix_iff_eq_take.mp h)
/-- due: the same beginning -/
theorem due_same {x y : List Nat} {i j : Nat} (hi : i ≤ y.length) (hp : (prices x y i).getD ((i : Int)).toNat 0 = 0) (hij : (i : Int) = j) : subDue (x.take i) (y.take j) = true := by
  rw [price_at hi, D_zero] at hp
  have e : i = j := by omega
  subst e
  simp [subDue, hp]
/-- not due: another beginning -/
theorem due_other {x y : List Nat} {i j : Nat} (hx : i ≤ x.length) (hi : i ≤ y.length) (hj : j ≤ y.length) (hij : (i : Int) ≤ j) (hp : (prices x y i).getD ((i : Int)).toNat 0 ≠ 0) : subDue (x.take i) (y.take j) = false := by
  rw [price_at hi, Ne, D_zero] at hp
  have hl : (x.take i).length = i := by rw [List.length_take]; omega
  have key : ∀ q : List Nat, x.take i <+: q → q <+: y.take j → False := by
    intro q h1 h2
    have h3 := pre_take (h1.trans h2)
    rw [hl, List.take_take, Nat.min_eq_left (by omega)] at h3
    exact hp h3
  simp only [subDue, decide_eq_false_iff_not]
  rintro (e | e)
  · exact key _ (List.prefix_refl _) (by rw [e]; exact List.prefix_refl _)
  · split at e
    · exact key _ (List.prefix_refl _) e
    · exact key _ (List.prefix_append _ _) e
/-- not due: a longer one -/
theorem due_long {x y : List Nat} {i j : Nat} (hx : i ≤ x.length) (hj : j ≤ y.length) (hij : ¬ (i : Int) ≤ j) : subDue (x.take i) (y.take j) = false := by
  have hl : (x.take i).length = i := by rw [List.length_take]; omega
  have hl2 : (y.take j).length = j := by rw [List.length_take]; omega
  simp only [subDue, decide_eq_false_iff_not]
  rintro (e | e)
  · have := congrArg List.length e; omega
  · have := e.length_le
    split at this
    · omega
    · rw [List.length_append] at this; omega
/-- due: a slash at the seam -/
theorem due_seam {x y : List Nat} {i j : Nat} (hx : i ≤ x.length) (hj : j ≤ y.length) (hlt : i < j) (hp : (prices x y i).getD ((i : Int)).toNat 0 = 0) :
    subDue (x.take i) (y.take j) = !(Builtin.Str.occurrences (Txt.slice (Txt.slice (S x) none (some (i : Int))) (some (-1)) none ++ Txt.item (S y) (i : Int)) (Str.ofString "/") 0 (Txt.slice (Txt.slice (S x) none (some (i : Int))) (some (-1)) none ++ Txt.item (S y) (i : Int)).length 1).isEmpty := by
  rw [price_at (by omega), D_zero] at hp
  have hiy : i < y.length := by omega
  have gi : y[i]? = some y[i] := List.getElem?_eq_getElem hiy
  have e1 : Txt.slice (S x) none (some (i : Int)) = S (x.take i) := slice_to (by omega) (by omega)
  have e2 : Txt.item (S y) (i : Int) = S [y[i]] := item_S gi
  rw [e1, slice_last, e2, S_app, S_slash]
  have hl : (x.take i).length = i := by rw [List.length_take]; omega
  generalize hw : (x.take i).drop ((x.take i).length - 1) ++ [y[i]] = wl
  have hf : (!(Builtin.Str.occurrences (S wl) (S [47]) 0 (S wl).length 1).isEmpty) = decide (47 ∈ wl) := by
    exact StrLaws.found_one (S wl) 47
  rw [hf]
  have hlast : (47 ∈ wl) ↔ ((x.take i).getLast? = some 47 ∨ y[i] = 47) := by
    rw [← hw, List.mem_append, List.mem_singleton]
    have : (47 ∈ (x.take i).drop ((x.take i).length - 1)) ↔ (x.take i).getLast? = some 47 := by
      rcases List.eq_nil_or_concat (x.take i) with e | ⟨r, a, e⟩
      · rw [e]; simp
      · rw [e]; simp [eq_comm]
    rw [this]
    constructor
    · rintro (e | e)
      · exact .inl e
      · exact .inr e.symm
    · rintro (e | e)
      · exact .inl e
      · exact .inr e.symm
  have hpre : x.take i <+: y.take j := by
    rw [hp, List.prefix_iff_eq_take, List.take_take, List.length_take, Nat.min_eq_left (by omega), Nat.min_eq_left (by omega)]
  rw [Bool.eq_iff_iff, decide_eq_true_eq, hlast]
  simp only [subDue, decide_eq_true_eq]
  constructor
  · rintro (e | e)
    · have := congrArg List.length e
      rw [hl, List.length_take] at this; omega
    · by_cases q : (x.take i).getLast? = some 47
      · exact .inl q
      · rw [if_neg q] at e
        right
        have h3 := pre_take e
        rw [List.length_append, hl, List.take_take, List.length_singleton, Nat.min_eq_left (by omega), take_snoc gi] at h3
        have h4 := List.append_inj_right' h3 rfl
        have : [47] = [y[i]] := h4
        simpa using this.symm
  · rintro (q | q)
    · right; rw [if_pos q]; exact hpre
    · right
      split
      · exact hpre
      · rw [hp, List.prefix_iff_eq_take]
        rw [List.length_append, List.length_take, List.take_take, List.length_singleton, Nat.min_eq_left (by omega : i ≤ y.length), Nat.min_eq_left (by omega), take_snoc gi, q]

theorem suburi_use {w : World} {mean : ExcName → Option Value} {mg mb : Str → Option Value} {self : Value} {ta tb : Addr} {ha hb xs ys : Str} {x y : List Nat} {t1 t2 t3 t4 : Tok} {news : List (Addr × Obj)}
    {dp un : Nat} {gd : Option (List Code)} {cn : Str} {cs : Scope} {a : Addr} {ccd : Value} {cl : List (Str × Addr)} {outer : List Env} {A₀ : Around} {base h₀ : Heap} {L : Addr} {m : Str → Option Value} {s : Shared} {Q E : Value → Shared → Prop}
    (B : Below A₀ base outer h₀) (F : Fr h₀ L s.heap m) (X : (hd.heap_39 w.params).In h₀) (N : News h₀ L s.heap news) (T : Top hd.view_39 (looseW hd.view_39 []) mean mg mb h₀) (hk : cs.kind = .function)
    (hta : (ta, tupObj [.str ha t1, .str xs t2]) ∈ news) (htb : (tb, tupObj [.str hb t3, .str ys t4]) ∈ news) (e1 : xs = S x) (e2 : ys = S y) (hx : x.length ≤ 20) (hy : y.length ≤ 20) (o1 : PyData.strOk ha = true) (o2 : PyData.strOk (S x) = true) (o3 : PyData.strOk hb = true) (o4 : PyData.strOk (S y) = true)
    (hdp : dp + 2 < recursionLimit) (hun : un + 100 < cLine) (ret : ∀ h' tk', Fr h₀ L h' m → News h₀ L h' news → Q (.bool (decide (ha = hb) && subDue x y)) { s with heap := h', toks := tk' }) :
    wpAny (model PySem.Challenge.rw_pe0132_01.row.prog w) (ktrTop dp un gd cn cs L a ccd cl outer) (call (.ref 78) [self, .ref ta, .ref tb]) Q E s := by
  subst e1 e2
  exact is_suburi_ok self ta tb ha hb x y t1 t2 t3 t4 hx hy o1 o2 o3 o4 dp un gd cn cs a ccd cl outer A₀ base h₀ L m s news Q E B F X N T hk hta htb hdp hun fun v h' tk' hv F' N' => by rw [hv]; exact ret h' tk' F' N'
local macro_rules | `(tactic| walk_at "call ref") => `(tactic| (k_here; (with_reducible show wpAny _ _ (call (Value.ref 78) _) _ _ _); (k_dflt (refine' suburi_use ?k1 ?k2 ?k3 ?kN ?k4 ?k5 ?ta ?tb ?e1 ?e2 ?l1 ?l2 ?o1 ?o2 ?o3 ?o4 ?kd ?ku ?_; (case k1 => k_asm); (case k2 => k_asm); (case k3 => k_asm); (case kN => k_asm); (case k4 => k_asm); (case k5 => first | exact rfl | assumption); (case ta => k_mem); (case tb => k_mem); (case e1 => first | with_reducible assumption | with_reducible rfl); (case e2 => first | with_reducible assumption | with_reducible rfl); (case l1 => assumption); (case l2 => assumption); (case o1 => decide +kernel); (case o2 => assumption); (case o3 => decide +kernel); (case o4 => assumption); (case kd => ktr_room); (case ku => ktr_units))); intro h' tk' F' N'; (try k_sweep)))
theorem al_ok {l : List Nat} (h : ∀ c ∈ l, Al c) : PyData.strOk (S l) = true := by
  unfold PyData.strOk
  simp only [List.all_toArray, List.all_eq_true, decide_eq_true_eq]
  intro c hc
  have := (h c hc).lt
  omega

theorem turn_one {w : World} {mean : ExcName → Option Value} {mg mb : Str → Option Value} {x y : List Nat} {tx ty ti tj tq : Tok} {tbl mx dx dd ra : Addr} {hs : Int} {rl : List Value} {tn rn i j : Nat} {rvs : List Value} {tail : List (Addr × Obj)}
    {dp un : Nat} {gd : Option (List Code)} {fa : Addr} {cd : Value} {outer : List Env} {A₀ : Around} {base g h : Heap} {L : Addr} {u : Str → Option Value} {s : Shared} {tk : Nat}
    (hx : x.length ≤ 7) (hy : y.length ≤ 9) (ax : ∀ c ∈ x, Al c) (ay : ∀ c ∈ y, Al c) (hy0 : y.head? = some 47) (hi : i ≤ x.length) (hj : j ≤ y.length)
    (hrx : rl[((i : Int)).toNat]? = some (.ref ra)) (hrm : (ra, listOf rvs.toArray rn) ∈ tail) (hrI : IntsAre rvs (prices x y i))
    (B : Below A₀ base outer g) (X : (hd.heap_39 w.params).In g) (T : Top hd.view_39 (looseW hd.view_39 []) mean mg mb g) (hdp : dp + 5 < recursionLimit) (hun : un + 150 < cLine)
    (F1 : Fr g L h (kstB u [(Str.ofString "j", .int (j : Int) tj), (Str.ofString "base", .str (S x) tx), (Str.ofString "test", .str (S y) ty), (Str.ofString "table", .ref tbl), (Str.ofString "manager", .ref mx), (Str.ofString "i", .int (i : Int) ti)]))
    (N1 : News g L h ((mx, instObj 81 dx) :: (dx, dictOf [⟨hs, .str (Str.ofString "passwd") tq, .ref dd⟩] 1) :: (tbl, listOf rl.toArray tn) :: tail)) :
    wpAny (model PySem.Challenge.rw_pe0132_01.row.prog w) (ktrTop dp un gd (Str.ofString "law") lawDef.2 L fa cd [] outer) (execs turnOne (envOf (Str.ofString "law") lawDef.2 L fa cd))
      (CutPost (AtE g s L (fun _ : Unit => (mx, instObj 81 dx) :: (dx, dictOf [⟨hs, .str (Str.ofString "passwd") tq, .ref dd⟩] 1) :: (tbl, listOf rl.toArray tn) :: tail) (fun _ => [(Str.ofString "base", .str (S x) tx), (Str.ofString "test", .str (S y) ty), (Str.ofString "table", .ref tbl), (Str.ofString "manager", .ref mx), (Str.ofString "i", .int (i : Int) ti)]) fun _ => True) fun _ _ => Never)
      (fun _ _ => False) { s with heap := h, toks := tk } := by
  w_on
  revert B X T
  k_fill
  intro B X T
  dsimp only [turnOne, lawDef, PySem.Challenge.pw_pe0132_01]
  simp only [kstB] at F1
  have lx : (S x).length = x.length := S_len x
  have ly : (S y).length = y.length := S_len y
  have hx20 : (S x).length ≤ 20 := by omega
  have hy20 : (S y).length ≤ 20 := by omega
  have hrl2 : (prices x y i).length = y.length + 1 := prices_len x y i
  have N2 : News g L h ((ra, listOf rvs.toArray rn) :: (mx, instObj 81 dx) :: (dx, dictOf [⟨hs, .str (Str.ofString "passwd") tq, .ref dd⟩] 1) :: (tbl, listOf rl.toArray tn) :: tail) := fun p hp =>
    (List.mem_cons.mp hp).elim (fun e => by rw [e]; exact N1 _ (List.Mem.tail _ (List.Mem.tail _ (List.Mem.tail _ hrm)))) (N1 p)
  clear N1
  have s1 : Txt.slice (S x) none (some (i : Int)) = S (x.take i) := slice_to (by omega) (by omega)
  have s2 : Txt.slice (S y) none (some (j : Int)) = S (y.take j) := slice_to (by omega) (by omega)
  have n1 : (x.take i).length ≤ 20 := by rw [List.length_take]; omega
  have n2 : (y.take j).length ≤ 20 := by rw [List.length_take]; omega
  have o1 := al_ok fun c hc => ax c (List.mem_of_mem_take (i := i) hc)
  have o2 := al_ok fun c hc => ay c (List.mem_of_mem_take (i := j) hc)
  k_steps
  · refine ⟨?_⟩
    rename (_ != _) = true => hb
    rename List.getD (prices _ _ _) _ _ = 0 => hp
    rename (i : Int) = (j : Int) => hij
    rw [due_same (by omega) hp hij] at hb
    simp [hij] at hb
  · exact AtE.intro () (by assumption) (by kst_all) (by assumption) (fun p hp => List.Mem.tail _ (List.Mem.tail _ (List.Mem.tail _ hp))) trivial
  · refine ⟨?_⟩
    rename (_ != _) = true => hb
    rename List.getD (prices _ _ _) _ _ = 0 => hp
    rename (i : Int) ≤ (j : Int) => hij
    rename (i : Int) ≠ (j : Int) => hne
    rw [due_seam hi hj (by omega) hp] at hb
    simp at hb
  · exact AtE.intro () (by assumption) (by kst_all) (by assumption) (fun p hp => List.Mem.tail _ (List.Mem.tail _ (List.Mem.tail _ hp))) trivial
  · refine ⟨?_⟩
    rename (_ != _) = true => hb
    rename List.getD (prices _ _ _) _ _ ≠ 0 => hp
    rename (i : Int) ≤ (j : Int) => hij
    rw [due_other hi (by omega) hj hij hp] at hb
    have hp' : ((prices x y i).getD ((i : Int)).toNat 0 == 0) = false := by
      cases q : ((prices x y i).getD ((i : Int)).toNat 0 == 0) with
      | false => rfl
      | true => exact absurd (by simpa using q) hp
    rw [hp'] at hb
    simp at hb
  · exact AtE.intro () (by assumption) (by kst_all) (by assumption) (fun p hp => List.Mem.tail _ (List.Mem.tail _ (List.Mem.tail _ hp))) trivial
  · refine ⟨?_⟩
    rename (_ != _) = true => hb
    rename ¬ (i : Int) ≤ (j : Int) => hij
    rw [due_long hi hj hij] at hb
    simp [hij] at hb
  · exact AtE.intro () (by assumption) (by kst_all) (by assumption) (fun p hp => List.Mem.tail _ (List.Mem.tail _ (List.Mem.tail _ hp))) trivial
end Mine

namespace Mine
set_option maxRecDepth 100000
set_option maxHeartbeats 8000000

def turnTwo : List Stmt := match lawDef.1 with
  | _ :: _ :: _ :: _ :: _ :: .For _ _ b _ _ :: _ => b
  | _ => []
def turnThree : List Stmt := match lawDef.1 with
  | _ :: _ :: _ :: _ :: _ :: _ :: .For _ _ b _ _ :: _ => b
  | _ => []

local macro_rules | `(tactic| walk_at "CutPost") => `(tactic| first | refine CutPost.nx ?_ | refine CutPost.rt ?_)
local macro_rules | `(tactic| walk_at "subscriptTail") => `(tactic| (k_here; (with_reducible show wpAny _ _ (subscriptTail _ _ (Value.ref _) (Value.int _ _)) _ _ _); k_dflt (refine' item_at ?k1 ?k2 ?k3 ?k4 ?k5 ?_ ?k7; (case k1 => k_asm); (case k2 => k_mem); (case k3 => with_reducible assumption); (case k4 => omega); (case k5 => omega); (case k7 => with_unfolding_all rfl); k_whole)))
local macro_rules | `(tactic| walk_at "subscriptTail") => `(tactic| (k_here; (with_reducible show wpAny _ _ (subscriptTail _ _ (Value.ref _) (Value.int (-1) _)) _ _ _); k_dflt (refine' item_last ?k1 ?k2 ?k3 ?k4 ?_ ?k7; (case k1 => k_asm); (case k2 => k_mem); (case k3 => with_reducible assumption); (case k4 => omega); (case k7 => with_unfolding_all rfl); k_whole)))

theorem lev_use {w : World} {mean : ExcName → Option Value} {mg mb : Str → Option Value} {xs ys : Str} {x y : List Nat} {mc : Int} {tx ty tm : Tok} {dp un : Nat} {gd : Option (List Code)} {cn : Str} {cs : Scope} {a : Addr} {ccd : Value} {cl : List (Str × Addr)} {outer : List Env} {A₀ : Around} {base h₀ : Heap} {L : Addr} {m : Str → Option Value} {s : Shared} {Q E : Value → Shared → Prop}
    (B : Below A₀ base outer h₀) (F : Fr h₀ L s.heap m) (X : (hd.heap_39 w.params).In h₀) (T : Top hd.view_39 (looseW hd.view_39 []) mean mg mb h₀) (hk : cs.kind = .function) (e1 : xs = S x) (e2 : ys = S y) (hx : x.length ≤ 20) (hy : y.length ≤ 20) (ax : ∀ c ∈ x, Al c) (ay : ∀ c ∈ y, Al c) (hmc : mc = D x y ∨ mc = D x y - 1)
    (hdp : dp + 3 < recursionLimit) (hun : un + 8 * 3 < cLine) (ret : ∀ t h' tk', s.heap.StaysIn h' → Q (.int (D x y) t) { s with heap := h', toks := tk' }) :
    wpAny (model PySem.Challenge.rw_pe0132_01.row.prog w) (ktrTop dp un gd cn cs L a ccd cl outer) (call (.ref 35) [.str xs tx, .str ys ty, .int mc tm]) Q E s := by
  subst e1 e2
  refine lev_ok x y mc tx ty tm hx hy ax ay hmc dp un gd cn cs a ccd cl outer A₀ base h₀ L m s Q E B F X T hk trivial hdp hun fun v h' tk' st hv => ?_
  obtain ⟨t, rfl⟩ := hv.out
  exact ret t h' tk' st
local macro_rules | `(tactic| walk_at "call ref") => `(tactic| (k_here; (rename Fr _ _ _ _ => lF'); (rename News _ _ _ _ => lN'); (k_dflt (refine' lev_use ?k1 lF' ?k3 ?k4 ?k5 ?e1 ?e2 ?l1 ?l2 ?a1 ?a2 ?mc ?kd ?ku ?_; (case k1 => k_asm); (case k3 => k_asm); (case k4 => k_asm); (case k5 => first | exact rfl | assumption); (case e1 => first | with_reducible assumption | with_reducible rfl); (case e2 => first | with_reducible assumption | with_reducible rfl); (case l1 => assumption); (case l2 => assumption); (case a1 => assumption); (case a2 => assumption); (case mc => with_reducible assumption); (case kd => ktr_room); (case ku => ktr_units))); intro t' h' tk' st'; (have F' := Mine.Fr.stays lF' st'); (have N' := Mine.News.stays lN' st'); clear lF' lN' st'; (try dsimp only)))

theorem bound_of {p d : Int} {k : Nat} (h : p = d) : p - Int.fmod (k : Int) 2 = d ∨ p - Int.fmod (k : Int) 2 = d - 1 := by
  have h0 : 0 ≤ Int.fmod (k : Int) 2 := Int.fmod_nonneg_of_pos _ (by decide)
  have h2 : Int.fmod (k : Int) 2 < 2 := Int.fmod_lt_of_pos _ (by decide)
  omega
theorem ints_last {vs : List Value} {ns : List Int} {n : Int} {k : Nat} (hI : IntsAre vs ns) (hl : ns.length = k + 1) (h : ns[k]? = some n) : ∃ t, vs.getLast? = some (.int n t) := by
  obtain ⟨t, ht⟩ := hI.get k n h
  refine ⟨t, ?_⟩
  rw [List.getLast?_eq_getElem?, hI.length, hl]
  exact ht

theorem turn_two {w : World} {mean : ExcName → Option Value} {mg mb : Str → Option Value} {x y : List Nat} {tx ty tj tq : Tok} {tbl mx dx dd ra : Addr} {hs : Int} {rl : List Value} {tn rn j : Nat} {rvs : List Value} {tail : List (Addr × Obj)}
    {dp un : Nat} {gd : Option (List Code)} {fa : Addr} {cd : Value} {outer : List Env} {A₀ : Around} {base g h : Heap} {L : Addr} {u : Str → Option Value} {s : Shared} {tk : Nat}
    (hx : x.length ≤ 7) (hy : y.length ≤ 9) (ax : ∀ c ∈ x, Al c) (ay : ∀ c ∈ y, Al c) (hj : j ≤ y.length) (hrl : rl.length ≤ 10)
    (hrx : rl.getLast? = some (.ref ra)) (hrm : (ra, listOf rvs.toArray rn) ∈ tail) (hrI : IntsAre rvs (prices x y x.length))
    (B : Below A₀ base outer g) (X : (hd.heap_39 w.params).In g) (T : Top hd.view_39 (looseW hd.view_39 []) mean mg mb g) (hdp : dp + 5 < recursionLimit) (hun : un + 150 < cLine)
    (F1 : Fr g L h (kstB u [(Str.ofString "j", .int (j : Int) tj), (Str.ofString "base", .str (S x) tx), (Str.ofString "test", .str (S y) ty), (Str.ofString "table", .ref tbl), (Str.ofString "manager", .ref mx)]))
    (N1 : News g L h ((mx, instObj 81 dx) :: (dx, dictOf [⟨hs, .str (Str.ofString "passwd") tq, .ref dd⟩] 1) :: (tbl, listOf rl.toArray tn) :: tail)) :
    wpAny (model PySem.Challenge.rw_pe0132_01.row.prog w) (ktrTop dp un gd (Str.ofString "law") lawDef.2 L fa cd [] outer) (execs turnTwo (envOf (Str.ofString "law") lawDef.2 L fa cd))
      (CutPost (AtE g s L (fun _ : Unit => (mx, instObj 81 dx) :: (dx, dictOf [⟨hs, .str (Str.ofString "passwd") tq, .ref dd⟩] 1) :: (tbl, listOf rl.toArray tn) :: tail) (fun _ => [(Str.ofString "base", .str (S x) tx), (Str.ofString "test", .str (S y) ty), (Str.ofString "table", .ref tbl), (Str.ofString "manager", .ref mx)]) fun _ => True) fun _ _ => False)
      (fun _ _ => False) { s with heap := h, toks := tk } := by
  w_on
  revert B X T
  k_fill
  intro B X T
  dsimp only [turnTwo, lawDef, PySem.Challenge.pw_pe0132_01]
  simp only [kstB] at F1
  have lx : (S x).length = x.length := S_len x
  have ly : (S y).length = y.length := S_len y
  have hx20 : (S x).length ≤ 20 := by omega
  have hy20 : (S y).length ≤ 20 := by omega
  have hrl2 : (prices x y x.length).length = y.length + 1 := prices_len x y x.length
  have N2 : News g L h ((ra, listOf rvs.toArray rn) :: (mx, instObj 81 dx) :: (dx, dictOf [⟨hs, .str (Str.ofString "passwd") tq, .ref dd⟩] 1) :: (tbl, listOf rl.toArray tn) :: tail) := fun p hp =>
    (List.mem_cons.mp hp).elim (fun e => by rw [e]; exact N1 _ (List.Mem.tail _ (List.Mem.tail _ (List.Mem.tail _ hrm)))) (N1 p)
  clear N1
  have s2 : Txt.slice (S y) none (some (j : Int)) = S (y.take j) := slice_to (by omega) (by omega)
  have n1 : x.length ≤ 20 := by omega
  have n2 : (y.take j).length ≤ 20 := by rw [List.length_take]; omega
  have a2 : ∀ c ∈ y.take j, Al c := fun c hc => ay c (List.mem_of_mem_take hc)
  have hpr : (prices x y x.length).getD ((j : Int)).toNat 0 = D x (y.take j) := by
    rw [show ((j : Int)).toNat = j by omega, List.getD_eq_getElem?_getD, prices_at (by omega), List.take_length]
    rfl
  have hmc := bound_of (k := j) hpr
  k_steps
  exact AtE.intro () (by assumption) (by kst_all) (by assumption) (fun p hp => List.Mem.tail _ hp) trivial

theorem turn_three {w : World} {mean : ExcName → Option Value} {mg mb : Str → Option Value} {x y : List Nat} {tx ty ti tq : Tok} {tbl mx dx dd ra : Addr} {hs : Int} {rl : List Value} {tn rn i : Nat} {rvs : List Value} {tail : List (Addr × Obj)}
    {dp un : Nat} {gd : Option (List Code)} {fa : Addr} {cd : Value} {outer : List Env} {A₀ : Around} {base g h : Heap} {L : Addr} {u : Str → Option Value} {s : Shared} {tk : Nat}
    (hx : x.length ≤ 7) (hy : y.length ≤ 9) (ax : ∀ c ∈ x, Al c) (ay : ∀ c ∈ y, Al c) (hi : i ≤ x.length)
    (hrx : rl[((i : Int)).toNat]? = some (.ref ra)) (hrm : (ra, listOf rvs.toArray rn) ∈ tail) (hrI : IntsAre rvs (prices x y i))
    (B : Below A₀ base outer g) (X : (hd.heap_39 w.params).In g) (T : Top hd.view_39 (looseW hd.view_39 []) mean mg mb g) (hdp : dp + 5 < recursionLimit) (hun : un + 150 < cLine)
    (F1 : Fr g L h (kstB u [(Str.ofString "i", .int (i : Int) ti), (Str.ofString "base", .str (S x) tx), (Str.ofString "test", .str (S y) ty), (Str.ofString "table", .ref tbl), (Str.ofString "manager", .ref mx)]))
    (N1 : News g L h ((mx, instObj 81 dx) :: (dx, dictOf [⟨hs, .str (Str.ofString "passwd") tq, .ref dd⟩] 1) :: (tbl, listOf rl.toArray tn) :: tail)) :
    wpAny (model PySem.Challenge.rw_pe0132_01.row.prog w) (ktrTop dp un gd (Str.ofString "law") lawDef.2 L fa cd [] outer) (execs turnThree (envOf (Str.ofString "law") lawDef.2 L fa cd))
      (CutPost (AtE g s L (fun _ : Unit => (mx, instObj 81 dx) :: (dx, dictOf [⟨hs, .str (Str.ofString "passwd") tq, .ref dd⟩] 1) :: (tbl, listOf rl.toArray tn) :: tail) (fun _ => [(Str.ofString "base", .str (S x) tx), (Str.ofString "test", .str (S y) ty), (Str.ofString "table", .ref tbl), (Str.ofString "manager", .ref mx)]) fun _ => True) fun _ _ => False)
      (fun _ _ => False) { s with heap := h, toks := tk } := by
  w_on
  revert B X T
  k_fill
  intro B X T
  dsimp only [turnThree, lawDef, PySem.Challenge.pw_pe0132_01]
  simp only [kstB] at F1
  have lx : (S x).length = x.length := S_len x
  have ly : (S y).length = y.length := S_len y
  have hx20 : (S x).length ≤ 20 := by omega
  have hy20 : (S y).length ≤ 20 := by omega
  have hrl2 : (prices x y i).length = y.length + 1 := prices_len x y i
  have hrvl : rvs.length = y.length + 1 := by rw [hrI.length, hrl2]
  obtain ⟨tl, hlast⟩ := ints_last hrI hrl2 (prices_at (by omega))
  have N2 : News g L h ((ra, listOf rvs.toArray rn) :: (mx, instObj 81 dx) :: (dx, dictOf [⟨hs, .str (Str.ofString "passwd") tq, .ref dd⟩] 1) :: (tbl, listOf rl.toArray tn) :: tail) := fun p hp =>
    (List.mem_cons.mp hp).elim (fun e => by rw [e]; exact N1 _ (List.Mem.tail _ (List.Mem.tail _ (List.Mem.tail _ hrm)))) (N1 p)
  clear N1
  have s2 : Txt.slice (S x) none (some (i : Int)) = S (x.take i) := slice_to (by omega) (by omega)
  have n1 : y.length ≤ 20 := by omega
  have n2 : (x.take i).length ≤ 20 := by rw [List.length_take]; omega
  have a2 : ∀ c ∈ x.take i, Al c := fun c hc => ax c (List.mem_of_mem_take hc)
  have hpr : D (x.take i) (y.take y.length) = D y (x.take i) := by rw [List.take_length, D_comm]
  have hmc := bound_of (k := i) hpr
  k_steps
  exact AtE.intro () (by assumption) (by kst_all) (by assumption) (fun p hp => List.Mem.tail _ hp) trivial
end Mine

namespace Mine
set_option maxRecDepth 100000
set_option maxHeartbeats 8000000

local macro_rules | `(tactic| walk_at "CutPost") => `(tactic| first | refine CutPost.nx ?_ | refine CutPost.rt ?_)
local macro_rules | `(tactic| walk_at "TurnPost") => `(tactic| first | refine TurnPost.nx ?_ | refine TurnPost.rt ?_)
local macro_rules | `(tactic| walk_at "pyIter ref") => `(tactic| refine Stop.out ?_)
local macro_rules | `(tactic| walk_at "exec For") => `(tactic| (k_here; (rename Fr _ _ _ _ => lF'); (with_unfolding_all refine' For_invVF lF' ?k1 ?k2 ?_; (case k1 => exact rfl); (case k2 => exact rfl); k_whole)))
local macro_rules | `(tactic| walk_at "call ref") => `(tactic| (k_here; (with_reducible show wpAny _ _ (call (Value.ref 92) _) _ _ _); refine Stop.out ?_))
local macro_rules | `(tactic| walk_at "call ref") => `(tactic| (k_here; (with_reducible show wpAny _ _ (call (Value.ref 104) _) _ _ _); refine Stop.out ?_))
local macro_rules | `(tactic| walk_at "call ref") => `(tactic| (k_here; (with_reducible show wpAny _ _ (call (Value.ref 35) _) _ _ _); refine Stop.out ?_))
local macro_rules | `(tactic| walk_at "call ref") => `(tactic| (k_here; (with_reducible show wpAny _ _ (call (Value.ref 78) _) _ _ _); refine Stop.out ?_))

local macro_rules | `(tactic| walk_at "mine_step") => `(tactic| (first | (k_unfold; (try dsimp only)) | (k_end; wrow_close) | walk1 | (dsimp only; walk1) | (leave1; walk_say "STEP leave1"; try dsimp only) | fail "no step"))
theorem turn_of_cut {g : Heap} {s s₂ : Shared} {L : Addr} {news : List (Addr × Obj)} {ps : List (Str × Value)} {I : Addr} {oI : Obj} {Q : Flow → Shared → Prop} {f : Flow} (hI : ∀ p ∈ news, p.1 ≠ I)
    (h : CutPost (AtE g s L (fun _ : Unit => news ++ [(I, oI)]) (fun _ => ps) fun _ => True) (fun _ _ => False) f s₂) : TurnPost g s L (fun _ : Unit => news) (fun _ => ps) (fun _ => True) I oI Q f s₂ := by
  cases f with
  | next =>
    obtain ⟨c, h', tk, m', e, F, hm, N, _⟩ := CutPost.out (f := .next) h
    exact ⟨⟨(), h', tk, m', e, F, hm, N, hI, trivial⟩⟩
  | ret v => exact (CutPost.out (f := .ret v) h).elim
  | brk => exact (CutPost.out (f := .brk) h).elim
  | cont => exact (CutPost.out (f := .cont) h).elim
local macro_rules | `(tactic| walk_at "call ref") => `(tactic| (k_here; (with_reducible show wpAny _ _ (call (Value.ref 78) _) _ _ _); (k_dflt (refine' suburi_use ?k1 ?k2 ?k3 ?kN ?k4 ?k5 ?ta ?tb ?e1 ?e2 ?l1 ?l2 ?o1 ?o2 ?o3 ?o4 ?kd ?ku ?_; (case k1 => k_asm); (case k2 => k_asm); (case k3 => k_asm); (case kN => k_asm); (case k4 => k_asm); (case k5 => first | exact rfl | assumption); (case ta => k_mem); (case tb => k_mem); (case e1 => first | with_reducible assumption | with_reducible rfl); (case e2 => first | with_reducible assumption | with_reducible rfl); (case l1 => assumption); (case l2 => assumption); (case o1 => decide +kernel); (case o2 => assumption); (case o3 => decide +kernel); (case o4 => assumption); (case kd => ktr_room); (case ku => ktr_units))); intro h' tk' F' N'; (try k_sweep)))
theorem fr_named {g h : Heap} {L : Addr} {m : Str → Option Value} {ps : List (Str × Value)} (F : Fr g L h m) (hm : ∀ p ∈ ps, m p.1 = some p.2) : Fr g L h (kstB m ps) := by
  rw [kstB_self hm]; exact F

theorem law_ok : PySem.Challenge.rw_pe0132_01.Holds := hd (by
  w_on
  k_go0
  all_goals try k_fold
  k_steps
  refine ⟨?_⟩
  rename Heap.IsList _ _ _ => hLs
  rename IntsAre _ _ => hIs
  rename Fr _ _ _ _ => F0
  rename News _ _ _ _ => N0
  rename Below _ _ _ _ => K0
  rename Top _ _ _ _ _ _ => T0
  rename Frag.In _ _ => KX
  rename ¬ _ < _ => hc63
  have hlen63 := hc63
  k_dflt (refine two_ok _ _ _ hIs ?kl _ _ _ _ _ _ _ _ _ _ _ _ _ _ _ _ _ K0 F0 KX T0 ?kk ?kp ?kd ?ku ?kR)
  case kl => omega
  case kk => exact rfl
  case kp => exact hLs.at fun o e => F0.keep _ _ e
  case kd => ktr_room
  case ku => ktr_units
  intro v h1 tk1 made st Nm hT
  obtain ⟨a0, x, y, tx, ty, rfl, hmem, hx7, hy9, ax, ay, hy0⟩ := hT.out
  have F1 := Mine.Fr.stays F0 st
  have N1 : News _ _ h1 [(a0, { cls := .type "tuple", data := .seq #[.str (S x) tx, .str (S y) ty] })] := fun p hp => Nm p (by rw [List.mem_singleton.mp hp]; exact hmem)
  clear F0 N0 st Nm hT hmem
  dsimp only
  have lx : (S x).length = x.length := S_len x
  have ly : (S y).length = y.length := S_len y
  have hx20 : (S x).length ≤ 20 := by omega
  have hy20 : (S y).length ≤ 20 := by omega
  k_steps
  refine ⟨?_⟩
  rename Fr _ _ _ _ => F2
  rename News _ _ _ _ => N2
  k_dflt (refine table_ok x y tx ty ?ml ?ml2 ax ay _ _ _ _ _ _ _ _ _ _ _ _ _ _ _ _ _ K0 F2 KX T0 ?mk trivial ?md ?mu ?mR)
  case ml => omega
  case ml2 => omega
  case mk => exact rfl
  case md => ktr_room
  case mu => ktr_units
  intro v h2 tk2 made2 st Nm hT
  obtain ⟨tbl, rows, tn, rfl, hmem, hrl, hrows, hpr⟩ := hT.out
  have F3 := Mine.Fr.stays F2 st
  have hN3 : ∀ p ∈ (tbl, listOf (refs rows).toArray tn) :: objs rows, p ∈ made2 := by
    intro p hp
    rcases List.mem_cons.mp hp with e | e
    · rw [e]; exact hmem
    · obtain ⟨r, hr, e2⟩ := List.mem_map.mp e
      rw [← e2]; exact hrows r hr
  have N3 : News _ _ h2 ((tbl, listOf (refs rows).toArray tn) :: objs rows) := fun p hp => Nm p (hN3 p hp)
  clear F2 N2 st Nm hT hmem hrows hN3 N1
  dsimp only
  have hob : ∀ (k : Nat) (r : Row), rows[k]? = some r → (r.1, listOf r.2.1.toArray r.2.2) ∈ objs rows := fun k r hr => List.mem_map.mpr ⟨r, List.mem_of_getElem? hr, rfl⟩
  have hrf : ∀ (k : Nat) (r : Row), rows[k]? = some r → (refs rows)[k]? = some (.ref r.1) := fun k r hr => by simp [refs, hr]
  have hrfl : (refs rows).length = x.length + 1 := by simp [refs, hrl]
  generalize objs rows = tail at N3 hob
  generalize refs rows = rl at N3 hrf hrfl
  have mk := kstMark
  k_steps
  refine ⟨?_⟩
  rename IsRange _ _ _ _ _ _ _ _ => hR
  rename Fr _ _ _ _ => F4
  rename News _ _ _ _ => N4
  rename_i hh4 tk4 t41 u41 v41 st4
  obtain ⟨mx, dx, dd, tq, u5, F5, N5⟩ : ∃ (mx dx dd : Addr) (tq : Tok) (u5 : PySem.Str → Option Value), Fr T0.heap T0.heap.objs.size hh4 (kstB u5 [(Str.ofString "base", .str (S x) tx), (Str.ofString "test", .str (S y) ty), (Str.ofString "table", .ref tbl), (Str.ofString "manager", .ref mx)]) ∧
      News T0.heap T0.heap.objs.size hh4 ((mx, instObj 81 dx) :: (dx, dictOf [⟨_, .str (Str.ofString "passwd") tq, .ref dd⟩] 1) :: (tbl, listOf rl.toArray tn) :: tail) := by
    exact ⟨_, _, _, _, _, fr_named F4 (by kst_all), fun p hp => N4 p (List.Mem.tail _ hp)⟩
  clear F4 N4 st4
  refine range_ro (n := x.length + 1) [(Str.ofString "base", .str (S x) tx), (Str.ofString "test", .str (S y) ty), (Str.ofString "table", .ref tbl), (Str.ofString "manager", .ref mx)] rfl hR (small_one (by omega) (by omega) (by omega) (by omega)) (by rw [rangeSize_nat]; omega) F5 N5 (by kst_all) ?_ ?_
  · clear F5 N5 hR
    intro i t u h tk I oI hi hne F1 N1
    simp only [kstB, Int.zero_add] at F1
    simp only [List.cons_append] at N1
    change Fr T0.heap T0.heap.objs.size h _ at F1
    change News T0.heap T0.heap.objs.size h _ at N1
    have hob1 : ∀ (k : Nat) (r : Row), rows[k]? = some r → (r.1, listOf r.2.1.toArray r.2.2) ∈ tail ++ [(I, oI)] := fun k r hr => List.mem_append_left _ (hob k r hr)
    generalize htl : tail ++ [(I, oI)] = tail1 at N1 hob1
    k_steps
    refine ⟨?_⟩
    rename IsRange _ _ _ _ _ _ _ _ => hR
    rename Fr _ _ _ _ => F6
    rename News _ _ _ _ => N6
    refine range_ro (n := y.length + 1) [(Str.ofString "base", .str (S x) tx), (Str.ofString "test", .str (S y) ty), (Str.ofString "table", .ref tbl), (Str.ofString "manager", .ref mx), (Str.ofString "i", .int (i : Int) t)] rfl hR (small_one (by omega) (by omega) (by omega) (by omega)) (by rw [rangeSize_nat]; omega) F6 N6 (by kst_all) ?_ ?_
    · clear F6 N6 hR
      rename Fr _ _ _ _ => Fo
      rename News _ _ _ _ => No
      clear Fo No
      intro j tj u h tk I2 oI2 hj hne2 F1 N1
      simp only [Int.zero_add] at F1
      obtain ⟨⟨ra, rvs, rn⟩, hri⟩ : ∃ r, rows[i]? = some r := ⟨rows[i], List.getElem?_eq_getElem (by omega)⟩
      refine wpAny_mono (turn_one hx7 hy9 ax ay hy0 (by omega) (by omega) (hrf i _ hri) (List.mem_append_left _ (hob1 i _ hri)) (hpr i _ hri) K0 KX T0 (by ktr_room) (by ktr_units) F1 N1) ?_ (fun _ _ q => q.elim)
      exact fun f s₂ q => turn_of_cut hne2 q.never
    · clear F6 N6 hR
      rename Fr _ _ _ _ => Fo
      rename News _ _ _ _ => No
      clear Fo No
      intro u h tk F1 N1
      simp only [kstB] at F1
      change Fr T0.heap T0.heap.objs.size h _ at F1
      change News T0.heap T0.heap.objs.size h _ at N1
      k_steps
      exact TurnEnd.intro () (by assumption) (by kst_all) (by assumption) (fun p hp => by rw [← htl]; exact hp) hne trivial
  · clear F5 N5 hR
    intro u h tk F1 N1
    simp only [kstB] at F1
    change Fr T0.heap T0.heap.objs.size h _ at F1
    change News T0.heap T0.heap.objs.size h _ at N1
    have o1 := al_ok ax
    have n1 : x.length ≤ 20 := by omega
    have hgh : (decide (Str.ofString "g" = Str.ofString "h") && subDue x x) = false := by
      rw [show decide (Str.ofString "g" = Str.ofString "h") = false by decide +kernel]; rfl
    have hlast : rl.getLast? = rl[x.length]? := by rw [List.getLast?_eq_getElem?, hrfl]; rfl
    k_steps
    refine ⟨?_⟩
    rename IsRange _ _ _ _ _ _ _ _ => hR
    rename Fr _ _ _ _ => F6
    rename News _ _ _ _ => N6
    have N7 := fun p hp => N6 p (List.Mem.tail _ (List.Mem.tail _ hp))
    change News T0.heap T0.heap.objs.size _ _ at N7
    refine range_ro (n := y.length + 1) [(Str.ofString "base", .str (S x) tx), (Str.ofString "test", .str (S y) ty), (Str.ofString "table", .ref tbl), (Str.ofString "manager", .ref mx)] rfl hR (small_one (by omega) (by omega) (by omega) (by omega)) (by rw [rangeSize_nat]; omega) F6 N7 (by kst_all) ?_ ?_
    · clear F6 N6 N7 hR
      rename Fr _ _ _ _ => Fo
      rename News _ _ _ _ => No
      clear Fo No
      intro j tj u h tk I2 oI2 hj hne2 F1 N1
      simp only [Int.zero_add] at F1
      obtain ⟨⟨ra, rvs, rn⟩, hri⟩ : ∃ r, rows[x.length]? = some r := ⟨rows[x.length], List.getElem?_eq_getElem (by omega)⟩
      refine wpAny_mono (turn_two hx7 hy9 ax ay (by omega) (by omega) (hlast.trans (hrf _ _ hri)) (List.mem_append_left _ (hob _ _ hri)) (hpr _ _ hri) K0 KX T0 (by ktr_room) (by ktr_units) F1 N1) ?_ (fun _ _ q => q.elim)
      exact fun f s₂ q => turn_of_cut hne2 q
    · clear F6 N6 N7 hR
      rename Fr _ _ _ _ => Fo
      rename News _ _ _ _ => No
      clear Fo No
      intro u h tk F1 N1
      simp only [kstB] at F1
      change Fr T0.heap T0.heap.objs.size h _ at F1
      change News T0.heap T0.heap.objs.size h _ at N1
      k_steps
      refine ⟨?_⟩
      rename IsRange _ _ _ _ _ _ _ _ => hR
      rename Fr _ _ _ _ => F6
      rename News _ _ _ _ => N6
      refine range_ro (n := x.length + 1) [(Str.ofString "base", .str (S x) tx), (Str.ofString "test", .str (S y) ty), (Str.ofString "table", .ref tbl), (Str.ofString "manager", .ref mx)] rfl hR (small_one (by omega) (by omega) (by omega) (by omega)) (by rw [rangeSize_nat]; omega) F6 N6 (by kst_all) ?_ ?_
      · clear F6 N6 hR
        rename Fr _ _ _ _ => Fo
        rename News _ _ _ _ => No
        clear Fo No
        intro i ti u h tk I2 oI2 hi hne2 F1 N1
        simp only [Int.zero_add] at F1
        obtain ⟨⟨ra, rvs, rn⟩, hri⟩ : ∃ r, rows[i]? = some r := ⟨rows[i], List.getElem?_eq_getElem (by omega)⟩
        refine wpAny_mono (turn_three hx7 hy9 ax ay (by omega) (hrf i _ hri) (List.mem_append_left _ (hob i _ hri)) (hpr i _ hri) K0 KX T0 (by ktr_room) (by ktr_units) F1 N1) ?_ (fun _ _ q => q.elim)
        exact fun f s₂ q => turn_of_cut hne2 q
      · clear F6 N6 hR
        rename Fr _ _ _ _ => Fo
        rename News _ _ _ _ => No
        clear Fo No
        intro u h tk F1 N1
        simp only [kstB] at F1
        change Fr T0.heap T0.heap.objs.size h _ at F1
        change News T0.heap T0.heap.objs.size h _ at N1
        k_steps)
end Mine

theorem PySem.Challenge.cw_pe0132_01_holds : PySem.Challenge.rw_pe0132_01.Holds :=
  Mine.law_ok
