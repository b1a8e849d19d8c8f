import PyProof.Rows.All
import Wide.All
import OpenK.AllK
import Wide.FinOn
import PySem.Challenge.RW_mr0031_01
set_option Elab.async false
set_option maxRecDepth 100000
set_option maxHeartbeats 8000000
set_option linter.unusedVariables false
set_option linter.unusedSimpArgs false
open PySem PySem.W PyProof.Rows PySem.Calls
namespace Mine
open_top hd for PySem.Challenge.rw_mr0031_01
end Mine
namespace Mine
def iter {α : Type} (f : α → α) : Nat → α → α
  | 0, a => a
  | n + 1, a => f (iter f n a)
def crcStep (c : Nat) : Nat := if c % 2 = 1 then (c / 2) ^^^ 3988292384 else c / 2
def gen (c : Nat) : Nat := iter crcStep 8 c
def sent (c t : Nat) : Nat := iter gen t c
def mir (w : Nat) : Nat → Nat
  | 0 => 0
  | j + 1 => mir w j * 2 + (w / 2 ^ j) % 2
def mirror (w : Nat) : Nat := mir w 32
/-- one turn of the law's own division: low, high, mine, yours -/
structure Ov where
  low : Nat
  high : Nat
  mine : Nat
  yours : Nat
def ovStep (o : Ov) : Ov :=
  if o.low % 2 = 0 then ⟨o.low / 2, o.high, (o.mine ^^^ (o.mine % 2 * 4374732215)) / 2, o.yours⟩
  else if o.low < o.high then ⟨o.high, o.low, o.yours, o.mine⟩
  else ⟨o.low ^^^ o.high, o.high, o.mine ^^^ o.yours, o.yours⟩
def ovAt (one other j : Nat) : Ov := iter ovStep j ⟨other, 4374732215, one, 0⟩
/-- a power reduced: behind j of the eight places -/
def red (p : Nat) : Nat → Nat
  | 0 => p * 256
  | j + 1 => if (red p j / 2 ^ (7 - j + 32)) % 2 = 1 then red p j ^^^ (4374732215 * 2 ^ (7 - j)) else red p j
def powStep (p : Nat) : Nat := red p 8
def pl (first : Nat) : Nat → List Int
  | 0 => []
  | n + 1 => pl first n ++ [((iter powStep n first : Nat) : Int)]
end Mine

namespace Mine
theorem xor_and_add (a : Nat) : ∀ b : Nat, (a ^^^ b) + 2 * (a &&& b) = a + b := by
  induction a using Nat.strongRecOn with
  | ind a ih =>
    intro b
    by_cases ha : a = 0
    · subst ha; simp
    · have h := ih (a / 2) (by omega) (b / 2)
      have h1 : (a ^^^ b) / 2 = a / 2 ^^^ b / 2 := Nat.xor_div_two
      have h2 : (a &&& b) / 2 = a / 2 &&& b / 2 := Nat.and_div_two
      have h3 := @Nat.and_mod_two_eq_one a b
      have h4 : (a ^^^ b) % 2 = (a + b) % 2 := by
        have q := @Nat.xor_mod_two_eq_one a b
        have q' : (a ^^^ b) % 2 = 1 ↔ a % 2 ≠ b % 2 := by
          rw [q]; constructor
          · intro h e; exact h (by rw [e])
          · intro h e; apply h; omega
        by_cases e : a % 2 = b % 2
        · have : ¬ (a ^^^ b) % 2 = 1 := fun z => q'.mp z e
          omega
        · have := q'.mpr e
          omega
      rw [← h1, ← h2] at h
      omega
theorem bx (a b : Nat) : Builtin.bitXor (a : Int) (b : Int) = ((a ^^^ b : Nat) : Int) := by
  rw [bitXor_and, bitAnd_pp (by omega) (by omega)]
  have h := xor_and_add a b
  simp only [Int.toNat_natCast]
  omega
theorem ba1 (a : Nat) : Builtin.bitAnd (a : Int) 1 = ((a % 2 : Nat) : Int) := by
  rw [bitAnd_m1]; omega
theorem fd (a b : Nat) : Int.fdiv (a : Int) (b : Int) = ((a / b : Nat) : Int) := by
  rw [Int.fdiv_eq_ediv_of_nonneg _ (by omega)]; rfl
theorem fm (a b : Nat) : Int.fmod (a : Int) (b : Int) = ((a % b : Nat) : Int) := by
  rw [Int.fmod_eq_emod_of_nonneg _ (by omega)]; rfl
theorem fdp (a k : Nat) : Int.fdiv (a : Int) (2 ^ k) = ((a / 2 ^ k : Nat) : Int) := by
  have : (2 : Int) ^ k = ((2 ^ k : Nat) : Int) := by rw [kbt_cast]
  rw [this, fd]
end Mine

namespace Mine

/-- what stands between the calls: nothing handled, so deep, so many units -/
abbrev Am (dp un : Nat) (fr : Option (List Env)) (gd : Option (List Code)) : Around := { handled := none, depth := dp, frames := fr, guards := gd, units := un }
abbrev Kp (h h' : Heap) : Prop := ∀ b o, h.get? b = some o → h'.get? b = some o
abbrev Mo (w : World) : Model := model PySem.Challenge.rw_mr0031_01.row.prog w
theorem Kp.refl {h : Heap} : Kp h h := fun _ _ e => e
theorem Kp.trans {h h' h'' : Heap} (a : Kp h h') (b : Kp h' h'') : Kp h h'' := fun x o e => b x o (a x o e)

/-- the world's facts at a heap -/
structure Wd (w : World) (h : Heap) : Prop where
  k : Frag.In (Mine.hd.heap_39 w.params) h
  t : ∃ p loose mean mg mb, Top p loose mean mg mb h
  c : CodeHd h 43 39
theorem Wd.keeps {w : World} {h h' : Heap} (x : Wd w h) (k : Kp h h') : Wd w h' :=
  ⟨x.k.keeps k, let ⟨p, a, b, c, d, t⟩ := x.t; ⟨p, a, b, c, d, t.keeps k⟩, x.c.keeps k⟩

theorem fresh_of {g h : Heap} {L : Addr} {m : Str → Option Value} (F : Fr g L h m) {l : Addr} (hl : h.get? l = none) : g.get? l = none := by
  cases q : g.get? l with
  | none => rfl
  | some o => rw [F.keep _ _ q] at hl; cases hl
theorem News.add {g h h' : Heap} {L : Addr} {m : Str → Option Value} {led : List (Addr × Obj)} (F : Fr g L h m) (N : News g L h led) (k : Kp h h') {l : Addr} {o : Obj} (hl : h.get? l = none) (ho : h'.get? l = some o) :
    News g L h' ((l, o) :: led) ∧ ∀ p ∈ led, p.1 ≠ l := by
  refine ⟨fun p hp => ?_, fun p hp e => ?_⟩
  · rcases List.mem_cons.mp hp with rfl | hp
    · refine ⟨ho, fun e => ?_, fresh_of F hl⟩
      obtain ⟨oL, _, _, hL, _⟩ := F.ns
      have e' : l = L := e
      rw [e', hL] at hl; cases hl
    · exact ⟨k _ _ (N p hp).1, (N p hp).2⟩
  · have := (N p hp).1; rw [e, hl] at this; cases this

/-- how a def comes back: the elder objects stand, and of the answer P holds -/
def RE (s : Shared) (P : Value → Heap → Prop) (fl : Flow) (s' : Shared) : Prop :=
  ∃ h' tk, s' = { s with heap := h', toks := tk } ∧ Kp s.heap h' ∧ P (match fl with | .ret v => v | _ => .none) h'
theorem RE.ret {s : Shared} {P : Value → Heap → Prop} {v : Value} {h' : Heap} {tk : Nat} {L : Addr} {m : Str → Option Value} (F : Fr s.heap L h' m) (p : P v h') : RE s P (.ret v) { s with heap := h', toks := tk } :=
  ⟨h', tk, rfl, F.keep, p⟩

section
variable {w : World} {dp un : Nat} {fr : Option (List Env)} {gd : Option (List Code)} {s : Shared} {Q E : Value → Shared → Prop}

theorem enter {K : Frag} {f : Addr} {name qual : Str} {params : Arguments} {body : List Stmt} {scope : Scope} {dV kV doc pm cdv ct oc : Value} {an od : Option Addr} {osl : Array (Option Value)} {args : List Value} {binds : List (Str × Value)}
    (P : Value → Heap → Prop) (X : K.In s.heap) (hlim : s.heap.NoLimit) (hd : dp < recursionLimit)
    (ho : K.lookup f = some ⟨oc, od, .func (fnOf name qual params body scope dV kV doc pm an cdv ct), osl⟩) (hcd : codeIn K cdv qual = true)
    (hbind : BindsTo s (fnOf name qual params body scope dV kV doc pm an cdv ct) ⟨args, []⟩ binds) (hloc : ∀ y ∈ binds, scope.names.lookup y.1 = some .local)
    (h : ∀ L h₁ tk, Fr s.heap L h₁ (fun x => binds.reverse.lookup x) →
      wpAny (Mo w) (Am (dp + 1) (un + 3) (fr.map (envOf qual scope L f cdv :: ·)) gd) (execs body (envOf qual scope L f cdv))
        (RE s P) (fun _ _ => False) { s with heap := h₁, toks := tk })
    (hQ : ∀ v h' tk, Kp s.heap h' → P v h' → Q v { s with heap := h', toks := tk })
    (hcell : ∀ x ∈ scope.names, x.2 ≠ .cell) (hco : scope.isCoroutine = false) (hgen : scope.isGenerator = false) (hk : scope.kind = .function) :
    wpAny (Mo w) (Am dp un fr gd) (call (.ref f) args) Q E s := by
  refine wpAny_call (codeAny_call_def (fd := fnOf name qual params body scope dV kV doc pm an cdv ct) (body := body) (binds := binds) hd (X _ _ ho) rfl hlim (codeRec_of X hcd) rfl hbind hcell hloc (fun h₁ hns hk₁ => ?_) hco hgen hk)
  refine wpAny_mono (h s.heap.objs.size h₁ _ ⟨hns, hk₁, Nat.le_refl _⟩) (fun fl s' hl => ?_) fun _ _ x => x.elim
  obtain ⟨h', tk, rfl, k, p⟩ := hl
  exact hQ _ h' tk k p
end
end Mine

namespace Mine
section
variable {w : World} {A : Around} {s : Shared} {env : Env} {g : Heap} {L : Addr}

/-- the end of a turn -/
def TE (s : Shared) (g : Heap) (L I : Addr) (o : Obj) (J : (Str → Option Value) → List (Addr × Obj) → Prop) (f : Flow) (s' : Shared) : Prop :=
  f = .next ∧ ∃ h' tk' m' led', s' = { s with heap := h', toks := tk' } ∧ Fr g L h' m' ∧ News g L h' ((I, o) :: led') ∧ (∀ p ∈ led', p.1 ≠ I) ∧ J m' led'

theorem TE.mk' {I : Addr} {o : Obj} {J : (Str → Option Value) → List (Addr × Obj) → Prop} {h' : Heap} {tk' : Nat} {m' : Str → Option Value} {led' : List (Addr × Obj)} (F : Fr g L h' m') (N : News g L h' ((I, o) :: led')) (hl : ∀ p ∈ led', p.1 ≠ I) (hJ : J m' led') :
    TE s g L I o J .next { s with heap := h', toks := tk' } := ⟨rfl, h', tk', m', led', rfl, F, N, hl, hJ⟩

theorem loop_gen {target : Expr} {body : List Stmt} {R : Result → Shared → Prop} {I : Addr} {fp : List Addr} {n : Nat} {P : Nat → Value → Prop} {St : Nat → Heap → Prop} {m : Str → Option Value} {led : List (Addr × Obj)}
    (J : Nat → (Str → Option Value) → List (Addr × Obj) → Prop) (W : Walks PySem.Challenge.rw_mr0031_01.row.prog w A I fp [I] n P St) (hI : ∀ i h, St i h → ∃ o, h.get? I = some o)
    (hfp : ∀ i h h' m m' led led', J i m led → Fr g L h m → News g L h led → J (i + 1) m' led' → Fr g L h' m' → News g L h' led' → h.get? I = h'.get? I → ∀ b ∈ fp, ∀ o, h.get? b = some o → h'.get? b = some o)
    (i0 : Nat) (hi0 : i0 ≤ n) (hst : St i0 s.heap) (F : Fr g L s.heap m) (N : News g L s.heap led) (hIL : I ≠ L) (hIg : g.get? I = none) (hIl : ∀ p ∈ led, p.1 ≠ I) (h0 : J i0 m led)
    (turn : ∀ i v m₁ led₁ h tk o, i < n → P i v → J i m₁ led₁ → (∀ p ∈ led₁, p.1 ≠ I) → Fr g L h m₁ → News g L h ((I, o) :: led₁) →
      wpAny (Mo w) A (assign target env v) (fun _ s₂ => wpAny (Mo w) A (execs body env) (TE s g L I o (J (i + 1))) (fun _ _ => False) s₂) (fun _ _ => False) { s with heap := h, toks := tk })
    (done : ∀ h tk m' led', Fr g L h m' → News g L h led' → J n m' led' → R (.ok .next) { s with heap := h, toks := tk })
    (ht : ∀ v, letOwnedTupleGo target (.ref I) v = pure ()) :
    codeAny (Mo w) A (.forLoop target (.ref I) body [] env) R s := by
  have old : ∀ b o, g.get? b = some o → b ≠ I := fun b o e q => by rw [q, hIg] at e; cases e
  refine codeAny_forLoop
    (fun k s' => ∃ h' tk m' led' i, s' = { s with heap := h', toks := tk } ∧ St i h' ∧ Fr g L h' m' ∧ News g L h' led' ∧ (∀ p ∈ led', p.1 ≠ I) ∧ J i m' led' ∧ i ≤ n ∧ k = n + 1 - i) ?_ (n + 1 - i0)
    ⟨s.heap, s.toks, m, led, i0, rfl, hst, F, N, hIl, h0, hi0, rfl⟩ ht
  rintro k s' ⟨h', tk, m', led', i, rfl, hst', F', N', hl', hJ, hi, rfl⟩
  have next : ∀ h₁ : Heap, (∀ b o, b ∉ [I] → h'.get? b = some o → h₁.get? b = some o) → Fr g L h₁ m' ∧ News g L h₁ led' := fun h₁ hk₁ =>
    ⟨⟨F'.ns.at' fun o e => hk₁ _ o (by simpa using Ne.symm hIL) e, fun b o e => hk₁ b o (by simpa using old b o e) (F'.keep b o e), F'.above⟩, fun p hp => ⟨hk₁ _ _ (by simpa using hl' p hp) (N' p hp).1, (N' p hp).2⟩⟩
  by_cases hlt : i < n
  · refine W.item i _ _ _ hlt hst' fun v h₁ tk₁ hP hst₁ hk₁ => ?_
    obtain ⟨F₁, N₁⟩ := next h₁ hk₁
    obtain ⟨o, ho⟩ := hI _ _ hst₁
    have N₂ : News g L h₁ ((I, o) :: led') := fun p hp => by
      rcases List.mem_cons.mp hp with rfl | hp
      · exact ⟨ho, hIL, hIg⟩
      · exact N₁ p hp
    refine wpAny_mono (turn i v m' led' h₁ tk₁ o hlt hP hJ hl' F₁ N₂) (fun _ s₂ h₂ => wpAny_mono h₂ (fun f s₃ h₃ => ?_) fun _ _ x => x.elim) fun _ _ x => x.elim
    obtain ⟨rfl, h₃, tk₃, m₃, led₃, rfl, F₃, N₃, hl₃, hJ₃⟩ := h₃
    refine ⟨n + 1 - (i + 1), by omega, h₃, tk₃, m₃, led₃, i + 1, rfl, ?_, F₃, fun p hp => N₃ p (.tail _ hp), hl₃, hJ₃, hlt, rfl⟩
    exact W.frame _ _ _ hst₁ (hfp i h₁ h₃ m' m₃ led' led₃ hJ F₁ N₁ hJ₃ F₃ (fun p hp => N₃ p (.tail _ hp)) (by rw [ho, (N₃ _ (.head _)).1]))
  · have hin : i = n := by omega
    subst hin
    refine W.done _ _ _ hst' fun h₁ tk₁ hk₁ => wpAny_execs_nil ?_
    obtain ⟨F₁, N₁⟩ := next h₁ hk₁
    exact done h₁ tk₁ m' led' F₁ N₁ hJ

theorem loop_range {target : Expr} {body : List Stmt} {Q : Flow → Shared → Prop} {E : Value → Shared → Prop} {r : Addr} {a b c : Int} {t u v : Tok} {n : Nat} {m : Str → Option Value} {led : List (Addr × Obj)}
    (J : Nat → (Str → Option Value) → List (Addr × Obj) → Prop) (hh : A.handled = none)
    (hr : IsRange s.heap r a b c t u v) (hsmall : Builtin.Range.small a b c = true) (hn : Builtin.Range.rangeSize a b c = (n : Int))
    (F : Fr g L s.heap m) (N : News g L s.heap led) (h0 : J 0 m led)
    (turn : ∀ i t m₁ led₁ h tk I o, i < n → J i m₁ led₁ → (∀ p ∈ led₁, p.1 ≠ I) → Fr g L h m₁ → News g L h ((I, o) :: led₁) →
      wpAny (Mo w) A (assign target env (.int (a + (i : Int) * c) t)) (fun _ s₂ => wpAny (Mo w) A (execs body env) (TE s g L I o (J (i + 1))) (fun _ _ => False) s₂) (fun _ _ => False) { s with heap := h, toks := tk })
    (done : ∀ h tk m' led', Fr g L h m' → News g L h led' → J n m' led' → Q .next { s with heap := h, toks := tk })
    (ht : ∀ I v, letOwnedTupleGo target (.ref I) v = pure ()) :
    wpAny (Mo w) A (pyIter (.ref r)) (fun it s₂ => codeAny (Mo w) A (.forLoop target it body [] env) (fun r s' => match r with | .ok f => Q f s' | .error e => cameBackBy (Mo w) A env E e s') s₂) E s := by
  refine wpAny_pyIter_range hr hsmall ?_
  have W := (Walks.range (prog := PySem.Challenge.rw_mr0031_01.row.prog) (w := w) hh s.heap.objs.size a c n)
  have hLt : L < s.heap.objs.size := F.ns.lt
  refine loop_gen (R := fun r s' => match r with | .ok f => Q f s' | .error e => cameBackBy (Mo w) A env E e s') J W (fun i h st => ⟨_, st⟩) ?_ 0 (Nat.zero_le _) ?_ (F.push _) (fun p hp => ⟨Heap.get?_push_of_some _ (N p hp).1, (N p hp).2⟩) (Nat.ne_of_gt hLt) ?_ ?_ h0 ?_ ?_ (ht _)
  · intro i h h' m m' led led' _ _ _ _ _ _ e b hb o ho
    rw [List.mem_singleton.mp hb] at ho ⊢
    rw [← e]; exact ho
  · show IsRangeIter _ _ _ _ _
    rw [hn]; simpa using Heap.get?_push_size _ rfl
  · exact next_is_new F
  · intro p hp e
    have := Heap.lt_size (N p hp).1
    rw [e] at this; exact absurd this (Nat.lt_irrefl _)
  · rintro i v m₁ led₁ h tk o hi ⟨t, rfl⟩ hJ hl F₁ N₁
    exact turn i t m₁ led₁ h tk _ o hi hJ hl F₁ N₁
  · intro h tk m' led' F' N' hJ
    exact done h tk m' led' F' N' hJ

/-- the end of a while's turn -/
def WE (s : Shared) (g : Heap) (L : Addr) (i : Nat) (J : Nat → (Str → Option Value) → List (Addr × Obj) → Prop) (f : Flow) (s' : Shared) : Prop :=
  f = .next ∧ ∃ h' tk' m' led' k, s' = { s with heap := h', toks := tk' } ∧ Fr g L h' m' ∧ News g L h' led' ∧ k < i ∧ J k m' led'
theorem WE.mk' {i : Nat} {J : Nat → (Str → Option Value) → List (Addr × Obj) → Prop} {h' : Heap} {tk' : Nat} {m' : Str → Option Value} {led' : List (Addr × Obj)} (k : Nat) (F : Fr g L h' m') (N : News g L h' led') (hk : k < i) (hJ : J k m' led') :
    WE s g L i J .next { s with heap := h', toks := tk' } := ⟨rfl, h', tk', m', led', k, rfl, F, N, hk, hJ⟩
theorem while_loop {test : Expr} {body : List Stmt} {pos : Pos} {Q : Flow → Shared → Prop} {E : Value → Shared → Prop} {m : Str → Option Value} {led : List (Addr × Obj)} (n : Nat)
    (J : Nat → (Str → Option Value) → List (Addr × Obj) → Prop) (F : Fr g L s.heap m) (N : News g L s.heap led) (h0 : J n m led)
    (turn : ∀ i m₁ led₁ h tk, J i m₁ led₁ → Fr g L h m₁ → News g L h led₁ →
      wpAny (Mo w) A (isTrue test env (eval test env)) (fun b s₂ =>
        if b then wpAny (Mo w) A (execs body env) (WE s g L i J) (fun _ _ => False) s₂
        else Q .next s₂) (fun _ _ => False) { s with heap := h, toks := tk }) :
    wpAny (Mo w) A (exec (.While test body [] pos) env) Q E s := by
  refine wpAny_While ?_
  refine codeAny_whileLoop (R := fun r s' => match r with | .ok f => Q f s' | .error e => cameBackBy (Mo w) A env E e s') (fun k s' => ∃ h' tk m' led', s' = { s with heap := h', toks := tk } ∧ Fr g L h' m' ∧ News g L h' led' ∧ J k m' led') ?_ n
    ⟨s.heap, s.toks, m, led, rfl, F, N, h0⟩
  rintro k s' ⟨h', tk, m', led', rfl, F', N', hJ⟩
  refine wpAny_mono (turn k m' led' h' tk hJ F' N') (fun b s₂ h₂ => ?_) fun _ _ x => x.elim
  cases b with
  | true =>
    simp only [if_true] at h₂ ⊢
    refine wpAny_mono h₂ (fun f s₃ h₃ => ?_) fun _ _ x => x.elim
    obtain ⟨rfl, h₃, tk₃, m₃, led₃, k', rfl, F₃, N₃, hk, hJ₃⟩ := h₃
    exact ⟨k', hk, h₃, tk₃, m₃, led₃, rfl, F₃, N₃, hJ₃⟩
  | false =>
    simp only [Bool.false_eq_true, if_false] at h₂ ⊢
    exact wpAny_execs_nil h₂
end
end Mine
namespace Mine
theorem Fr.seen {g h : Heap} {L : Addr} {m : Str → Option Value} {x : Str} {v : Value} (F : Fr g L h m) (hm : m x = some v) : Fr g L h (fun y => if y = x then some v else m y) := by
  have e : (fun y => if y = x then some v else m y) = m := by
    funext y
    by_cases q : y = x
    · rw [if_pos q, q, hm]
    · rw [if_neg q]
  rw [e]; exact F
theorem fill_ (w : World) (_h : Frag.In (Mine.hd.heap_39 w.params) (default : Heap)) : (model PySem.Challenge.rw_mr0031_01.row.prog w = model PySem.Challenge.rw_mr0031_01.row.prog w) := rfl
end Mine

local macro_rules | `(tactic| walk_at "go") => `(tactic| repeat' (first | (k_unfold; (try dsimp only)) | ((fail_if_success (with_reducible show wpAny _ _ (exec (Stmt.For _ _ _ _ _) _) _ _ _)); (fail_if_success (with_reducible show wpAny _ _ (exec (Stmt.While _ _ _ _) _) _ _ _)); (fail_if_success (with_reducible show wpAny _ _ (pyIter _) _ _ _)); (fail_if_success (with_reducible show wpAny _ _ (PySem.call (Value.ref _) _) _ _ _)); first | walk1 | (dsimp only; walk1))))
local macro_rules | `(tactic| walk_at "gs") => `(tactic| repeat' (first | (k_unfold; (try dsimp only)) | ((fail_if_success (with_reducible show wpAny _ _ (exec (Stmt.For _ _ _ _ _) _) _ _ _)); (fail_if_success (with_reducible show wpAny _ _ (exec (Stmt.While _ _ _ _) _) _ _ _)); (fail_if_success (with_reducible show wpAny _ _ (pyIter _) _ _ _)); (fail_if_success (with_reducible show wpAny _ _ (PySem.call (Value.ref _) _) _ _ _)); (fail_if_success (with_reducible show wpAny _ _ (PySem.call (Value.builtin _) _) _ _ _)); (fail_if_success (with_reducible show wpAny _ _ (subscriptTail _ _ (Value.ref _) _) _ _ _)); (fail_if_success (with_reducible show wpAny _ _ (setItem _ _ _) _ _ _)); (fail_if_success (with_reducible show wpAny _ _ (PySem.call (Value.type "enumerate") _) _ _ _)); (fail_if_success (with_reducible show wpAny _ _ (exec (Stmt.Assign _ (PySem.Expr.ListComp _ _ _ _) _) _) _ _ _)); (fail_if_success (with_reducible show wpAny _ _ (eval (PySem.Expr.ListComp _ _ _ _) _) _ _ _)); (fail_if_success (with_reducible show wpAny _ _ (eval (PySem.Expr.Lambda _ _ _ _) _) _ _ _)); (fail_if_success (with_reducible show wpAny _ _ (binaryOp _ (Value.ref _) (Value.ref _)) _ _ _)); (fail_if_success (with_reducible show wpAny _ _ (compareOp _ _ (Value.ref _)) _ _ _)); (fail_if_success (with_reducible show LCt.CompSrcT _ _ _ _ _ _ _ _ _ _ _ _ _ _ _)); first | walk1 | (dsimp only; walk1))))
example (w : World) (h : Frag.In (Mine.hd.heap_39 w.params) (default : Heap)) : (model PySem.Challenge.rw_mr0031_01.row.prog w = model PySem.Challenge.rw_mr0031_01.row.prog w) := by
  revert h; k_fill; w_top off; intro _; rfl
namespace Mine
theorem crc_odd {n : Nat} (h : Builtin.bitAnd (n : Int) 1 ≠ 0) : Builtin.bitXor (Int.fdiv (n : Int) (2 ^ Int.toNat 1)) 3988292384 = ((crcStep n : Nat) : Int) := by
  rw [ba1] at h
  have e : Int.fdiv (n : Int) (2 ^ Int.toNat 1) = ((n / 2 : Nat) : Int) := fdp n 1
  rw [e, show (3988292384 : Int) = ((3988292384 : Nat) : Int) from rfl, bx, crcStep, if_pos (by omega)]
theorem crc_even {n : Nat} (h : Builtin.bitAnd (n : Int) 1 = 0) : Int.fdiv (n : Int) (2 ^ Int.toNat 1) = ((crcStep n : Nat) : Int) := by
  rw [ba1] at h
  have e : Int.fdiv (n : Int) (2 ^ Int.toNat 1) = ((n / 2 : Nat) : Int) := fdp n 1
  rw [e, crcStep, if_neg (by omega)]
theorem vint {a b : Int} {t : Tok} (e : a = b) : some (Value.int a t) = some (Value.int b t) := by rw [e]
section
variable {w : World} {dp un : Nat} {fr : Option (List Env)} {gd : Option (List Code)} {s : Shared} {Q E : Value → Shared → Prop}
theorem gen_crc_c (X : Wd w s.heap) (hd : dp + 20 < recursionLimit) (hu : un + 100 < cLine) {x : Int} {t : Tok} (hx : 0 ≤ x)
   (hQ : ∀ t' h' tk, Kp s.heap h' → Q (.int ((gen x.toNat : Nat) : Int) t') {s with heap := h', toks := tk}) : wpAny (Mo w) (Am dp un fr gd) (call (.ref 21) [.int x t]) Q E s := by
  obtain ⟨X, ⟨pT, loose, mean, mg, mb, T⟩, CH⟩ := X
  refine enter (K := Mine.hd.heap_39 w.params) (binds := [(Str.ofString "crc", .int x t)]) (fun v _ => ∃ t', v = .int ((gen x.toNat : Nat) : Int) t') X T.nolimit (by omega) (by k_is) (by k_is) (by exact BindsTo.of_eq rfl) (by exact locs rfl) ?_ ?_ (by decide) (by rfl) (by rfl) (by rfl)
  rotate_left
  · intro v h' tk k e; obtain ⟨t', rfl⟩ := e; exact hQ t' h' tk k
  intro L h₁ tk F
  have N : News s.heap L h₁ [] := News.nil
  refine wpAny_execs_cons (wpAny_For ?_ (by intro _; rfl))
  walk_at "go"
  refine loop_range (n := 8) (fun i m led => led = [] ∧ ∃ t, m (Str.ofString "crc") = some (.int ((iter crcStep i x.toNat : Nat) : Int) t)) rfl (by assumption) (by decide) (by decide) (by assumption) (by assumption) ⟨rfl, t, ?_⟩ ?_ ?_ (by intro _ _; rfl)
  · show some (Value.int x t) = _
    simp only [iter, Int.toNat_of_nonneg hx]
  · rintro i t₁ m₁ led₁ h tk I o hi ⟨rfl, t₂, hm⟩ hI F₁ N₁
    replace F₁ := Fr.seen F₁ hm
    walk_at "go"
    · exact TE.mk' (by assumption) (by assumption) hI ⟨rfl, _, vint (crc_odd (by assumption))⟩
    · exact TE.mk' (by assumption) (by assumption) hI ⟨rfl, _, vint (crc_even (by assumption))⟩
  · rintro h tk m' led' F₁ N₁ ⟨rfl, t₂, hm⟩
    replace F₁ := Fr.seen F₁ hm
    dsimp only
    walk_at "go"
    exact RE.ret F₁ ⟨_, rfl⟩
end
theorem mir_turn {x : Int} (hx : 0 ≤ x) (i : Nat) : ((mir x.toNat i : Nat) : Int) * 2 + (x.fdiv (2 ^ (0 + (i : Int) * 1).toNat)).fmod 2 = ((mir x.toNat (i + 1) : Nat) : Int) := by
  obtain ⟨n, rfl⟩ := Int.eq_ofNat_of_zero_le hx
  have e : (0 + (i : Int) * 1).toNat = i := by omega
  rw [e, fdp, show (2 : Int) = ((2 : Nat) : Int) from rfl, fm]
  simp only [Int.toNat_natCast, mir]
  omega
section
variable {w : World} {dp un : Nat} {fr : Option (List Env)} {gd : Option (List Code)} {s : Shared} {Q E : Value → Shared → Prop}
theorem sent_c (W : Wd w s.heap) (hd : dp + 25 < recursionLimit) (hu : un + 110 < cLine) {x y : Int} {t t2 : Tok} (hx : 0 ≤ x) (hy : 0 ≤ y) (hy2 : y ≤ 3)
   (hQ : ∀ t' h' tk, Kp s.heap h' → Q (.int ((sent x.toNat y.toNat : Nat) : Int) t') {s with heap := h', toks := tk}) : wpAny (Mo w) (Am dp un fr gd) (call (.ref 37) [.int x t, .int y t2]) Q E s := by
  obtain ⟨X, ⟨pT, loose, mean, mg, mb, T⟩, CH⟩ := id W
  refine enter (K := Mine.hd.heap_39 w.params) (binds := [(Str.ofString "total", .int x t), (Str.ofString "turns", .int y t2)]) (fun v _ => ∃ t', v = .int ((sent x.toNat y.toNat : Nat) : Int) t') X T.nolimit (by omega) (by k_is) (by k_is) (by exact BindsTo.of_eq rfl) (by exact locs rfl) ?_ ?_ (by decide) (by rfl) (by rfl) (by rfl)
  rotate_left
  · intro v h' tk k e; obtain ⟨t', rfl⟩ := e; exact hQ t' h' tk k
  intro L h₁ tk F
  have N : News s.heap L h₁ [] := News.nil
  refine wpAny_execs_cons (wpAny_For ?_ (by intro _; rfl))
  walk_at "go"
  refine loop_range (n := (y - 0).toNat) (fun i m led => led = [] ∧ ∃ t, m (Str.ofString "total") = some (.int ((iter gen i x.toNat : Nat) : Int) t)) rfl (by assumption) (small_one (by omega) (by omega) (by omega) (by omega)) ?_ (by assumption) (by assumption) ⟨rfl, t, ?_⟩ ?_ ?_ (by intro _ _; rfl)
  · exact rangeSize_nat _ _
  · show some (Value.int x t) = _
    simp only [iter, Int.toNat_of_nonneg hx]
  · rintro i t₁ m₁ led₁ h tk I o hi ⟨rfl, t₂, hm⟩ hI F₁ N₁
    replace F₁ := Fr.seen F₁ hm
    walk_at "go"
    rename Fr _ _ _ _ => F
    rename News _ _ _ _ => N
    refine gen_crc_c (W.keeps F.keep) (by omega) (by omega) (by omega) ?_
    intro t' h' tk' hk
    replace F := F.keeps hk
    replace N := N.grown hk
    dsimp only
    walk_at "go"
    refine TE.mk' (by assumption) (by assumption) hI ⟨rfl, _, vint ?_⟩
    rw [Int.toNat_natCast]; rfl
  · rintro h tk m' led' F₁ N₁ ⟨rfl, t₂, hm⟩
    replace F₁ := Fr.seen F₁ hm
    rw [Int.sub_zero] at F₁
    dsimp only
    walk_at "go"
    exact RE.ret F₁ ⟨_, rfl⟩

theorem mirrored_c (W : Wd w s.heap) (hd : dp + 20 < recursionLimit) (hu : un + 100 < cLine) {x : Int} {t : Tok} (hx : 0 ≤ x) 
   (hQ : ∀ t' h' tk, Kp s.heap h' → Q (.int ((mirror x.toNat : Nat) : Int) t') {s with heap := h', toks := tk}) : wpAny (Mo w) (Am dp un fr gd) (call (.ref 58) [.int x t]) Q E s := by
  obtain ⟨X, ⟨pT, loose, mean, mg, mb, T⟩, CH⟩ := id W
  refine enter (K := Mine.hd.heap_39 w.params) (binds := [(Str.ofString "word", .int x t)]) (fun v _ => ∃ t', v = .int ((mirror x.toNat : Nat) : Int) t') X T.nolimit (by omega) (by k_is) (by k_is) (by exact BindsTo.of_eq rfl) (by exact locs rfl) ?_ ?_ (by decide) (by rfl) (by rfl) (by rfl)
  rotate_left
  · intro v h' tk k e; obtain ⟨t', rfl⟩ := e; exact hQ t' h' tk k
  intro L h₁ tk F
  have N : News s.heap L h₁ [] := News.nil
  walk_at "go"
  refine wpAny_For ?_ (by intro _; rfl)
  walk_at "go"
  refine loop_range (n := 32) (fun i m led => led = [] ∧ m (Str.ofString "word") = some (.int x t) ∧ ∃ t, m (Str.ofString "mirrored") = some (.int ((mir x.toNat i : Nat) : Int) t)) rfl (by assumption) (by decide) (by decide) (by assumption) (by assumption) ⟨rfl, rfl, _, rfl⟩ ?_ ?_ (by intro _ _; rfl)
  · rintro i t₁ m₁ led₁ h tk I o hi ⟨rfl, hm1, t₂, hm⟩ hI F₁ N₁
    replace F₁ := Fr.seen (x := Str.ofString "word") (v := .int x t) (Fr.seen F₁ hm) hm1
    walk_at "go"
    refine TE.mk' (by assumption) (by assumption) hI ⟨rfl, rfl, _, vint ?_⟩
    exact mir_turn hx i
  · rintro h tk m' led' F₁ N₁ ⟨rfl, hm1, t₂, hm⟩
    replace F₁ := Fr.seen F₁ hm
    dsimp only
    walk_at "go"
    exact RE.ret F₁ ⟨_, rfl⟩
end
theorem fm_zero {n : Nat} (h : (n : Int).fmod 2 = 0) : n % 2 = 0 := by
  have q : (n : Int).fmod 2 = ((n % 2 : Nat) : Int) := fm n 2
  omega
theorem fm_ne {n : Nat} (h : (n : Int).fmod 2 ≠ 0) : ¬ n % 2 = 0 := by
  have q : (n : Int).fmod 2 = ((n % 2 : Nat) : Int) := fm n 2
  omega
theorem ov_mine (n : Nat) : (Builtin.bitXor (n : Int) ((n : Int).fmod 2 * 4374732215)).fdiv 2 = (((n ^^^ (n % 2 * 4374732215)) / 2 : Nat) : Int) := by
  have q : (n : Int).fmod 2 = ((n % 2 : Nat) : Int) := fm n 2
  have e : (n : Int).fmod 2 * 4374732215 = ((n % 2 * 4374732215 : Nat) : Int) := by omega
  rw [e, bx]; exact fd _ 2
section
variable {w : World} {dp un : Nat} {fr : Option (List Env)} {gd : Option (List Code)} {s : Shared} {Q E : Value → Shared → Prop}
theorem over_c (W : Wd w s.heap) (hd : dp + 20 < recursionLimit) (hu : un + 100 < cLine) {x y N : Nat} {t t2 : Tok} (hN : (ovAt x y N).low = 1) (hlt : ∀ j < N, (ovAt x y j).low ≠ 1)
   (hQ : ∀ t' h' tk, Kp s.heap h' → Q (.int (((if x = 0 then 0 else (ovAt x y N).mine) : Nat) : Int) t') {s with heap := h', toks := tk}) : wpAny (Mo w) (Am dp un fr gd) (call (.ref 79) [.int (x : Int) t, .int (y : Int) t2]) Q E s := by
  obtain ⟨X, ⟨pT, loose, mean, mg, mb, T⟩, CH⟩ := id W
  refine enter (K := Mine.hd.heap_39 w.params) (binds := [(Str.ofString "one", .int (x : Int) t), (Str.ofString "other", .int (y : Int) t2)]) (fun v _ => ∃ t', v = .int (((if x = 0 then 0 else (ovAt x y N).mine) : Nat) : Int) t') X T.nolimit (by omega) (by k_is) (by k_is) (by exact BindsTo.of_eq rfl) (by exact locs rfl) ?_ ?_ (by decide) (by rfl) (by rfl) (by rfl)
  rotate_left
  · intro v h' tk k e; obtain ⟨t', rfl⟩ := e; exact hQ t' h' tk k
  intro L h₁ tk F
  have N0 : News s.heap L h₁ [] := News.nil
  walk_at "go"
  · exact RE.ret F ⟨_, by rw [if_pos (by omega)]; rfl⟩
  · rename Fr _ _ _ _ => F
    have hx : x ≠ 0 := by omega
    refine while_loop (n := N) (fun k m led => led = [] ∧ ∃ j t1 t2 t3 t4, j ≤ N ∧ k = N - j ∧ m (Str.ofString "low") = some (.int ((ovAt x y j).low : Int) t1) ∧ m (Str.ofString "high") = some (.int ((ovAt x y j).high : Int) t2) ∧
      m (Str.ofString "mine") = some (.int ((ovAt x y j).mine : Int) t3) ∧ m (Str.ofString "yours") = some (.int ((ovAt x y j).yours : Int) t4)) F News.nil ⟨rfl, 0, _, _, _, _, Nat.zero_le _, rfl, rfl, rfl, rfl, rfl⟩ ?_
    rintro i m₁ led₁ h tk ⟨rfl, j, t1, t2, t3, t4, hj, rfl, m1, m2, m3, m4⟩ F₁ N₁
    generalize hO : ovAt x y j = O at m1 m2 m3 m4
    replace F₁ := Fr.seen F₁ m1
    replace F₁ := Fr.seen (x := Str.ofString "high") (v := .int (O.high : Int) t2) F₁ m2
    replace F₁ := Fr.seen (x := Str.ofString "mine") (v := .int (O.mine : Int) t3) F₁ m3
    replace F₁ := Fr.seen (x := Str.ofString "yours") (v := .int (O.yours : Int) t4) F₁ m4
    walk_at "go"
    · have hj1 : j < N := by
        rcases Nat.lt_or_eq_of_le hj with q | q
        · exact q
        · rw [q] at hO; rw [hO] at hN; omega
      have hS : ovAt x y (j + 1) = ⟨O.low / 2, O.high, (O.mine ^^^ (O.mine % 2 * 4374732215)) / 2, O.yours⟩ := by
        show ovStep (ovAt x y j) = _
        rw [hO]
        exact if_pos (fm_zero (by assumption))
      refine WE.mk' (N - (j + 1)) (by assumption) News.nil (by omega) ⟨rfl, j + 1, _, _, _, _, hj1, rfl, vint ?_, vint ?_, vint ?_, vint ?_⟩
      · rw [hS]; exact fd _ 2
      · rw [hS]
      · rw [hS]; exact ov_mine _
      · rw [hS]
    · have hj1 : j < N := by
        rcases Nat.lt_or_eq_of_le hj with q | q
        · exact q
        · rw [q] at hO; rw [hO] at hN; omega
      have hS : ovAt x y (j + 1) = ⟨O.high, O.low, O.yours, O.mine⟩ := by
        show ovStep (ovAt x y j) = _
        rw [hO]
        exact (if_neg (fm_ne (by assumption))).trans (if_pos (by omega))
      refine WE.mk' (N - (j + 1)) (by assumption) News.nil (by omega) ⟨rfl, j + 1, _, _, _, _, hj1, rfl, vint ?_, vint ?_, vint ?_, vint ?_⟩ <;> rw [hS]
    · have hj1 : j < N := by
        rcases Nat.lt_or_eq_of_le hj with q | q
        · exact q
        · rw [q] at hO; rw [hO] at hN; omega
      have hS : ovAt x y (j + 1) = ⟨O.low ^^^ O.high, O.high, O.mine ^^^ O.yours, O.yours⟩ := by
        show ovStep (ovAt x y j) = _
        rw [hO]
        exact (if_neg (fm_ne (by assumption))).trans (if_neg (by omega))
      refine WE.mk' (N - (j + 1)) (by assumption) News.nil (by omega) ⟨rfl, j + 1, _, _, _, _, hj1, rfl, vint ?_, vint ?_, vint ?_, vint ?_⟩
      · rw [hS]; exact bx _ _
      · rw [hS]
      · rw [hS]; exact bx _ _
      · rw [hS]
    · have hj1 : j = N := by
        rcases Nat.lt_or_eq_of_le hj with q | q
        · have := hlt j q; rw [hO] at this; omega
        · exact q
      refine RE.ret F₁ ⟨t3, ?_⟩
      rw [if_neg hx, ← hj1, hO]
end
section
variable {w : World} {A : Around} {g : Heap} {L : Addr} {s : Shared} {led : List (Addr × Obj)} {l : Addr} {vs : List Value} {c : Nat} {E : Value → Shared → Prop}
theorem len_at {n : Nat} {Q : Value → Shared → Prop} (ho : s.heap.get? l = some (listOf vs.toArray c)) (hn : vs.length = n) (hb : n < 2 ^ 62) (h : ∀ t tk, Q (.int (n : Int) t) { s with toks := tk }) :
    wpAny (Mo w) A (call (.builtin "len") [.ref l]) Q E s := by
  have hl : s.heap.IsList l vs.toArray := ⟨_, ho, rfl, c, rfl⟩
  have e : vs.toArray.size = n := by rw [List.size_toArray, hn]
  exact len_list hl (by rw [e]; omega) (by rw [e]; exact h _ _)
theorem item_at {value slice : Expr} {k : Int} {u : Tok} {i : Nat} {v : Value} {Q : Value → Shared → Prop} (ho : s.heap.get? l = some (listOf vs.toArray c)) (hk : k = (i : Int)) (hi : i < 2 ^ 62) (hv : vs[i]? = some v) (h : Q v s)
    (hs : subscripted slice false (.ref l) (.int k u) = operate [.ref l, .int k u] (getItem (.ref l) (.int k u)) := by with_unfolding_all rfl) :
    wpAny (Mo w) A (subscriptTail value slice (.ref l) (.int k u)) Q E s := by
  have hl : s.heap.IsList l vs.toArray := ⟨_, ho, rfl, c, rfl⟩
  subst hk
  exact tail_any hl.typeIs slot_list_getitem.lookup (wpAny_getItem_list hl (by omega) (by omega) (by simpa using hv) h) hs
theorem last_at {value slice : Expr} {u : Tok} {us : List Value} {v : Value} {Q : Value → Shared → Prop} (ho : s.heap.get? l = some (listOf (us ++ [v]).toArray c)) (h : Q v s)
    (hs : subscripted slice false (.ref l) (.int (-1) u) = operate [.ref l, .int (-1) u] (getItem (.ref l) (.int (-1) u)) := by with_unfolding_all rfl) :
    wpAny (Mo w) A (subscriptTail value slice (.ref l) (.int (-1) u)) Q E s := by
  have hl : s.heap.IsList l (us ++ [v]).toArray := ⟨_, ho, rfl, c, rfl⟩
  have hz : (us ++ [v]).toArray.size = us.length + 1 := by simp
  refine tail_any hl.typeIs slot_list_getitem.lookup (wpAny_getItem_list_neg hl (by omega) (by rw [hz]; omega) (by omega) ?_ h) hs
  have e : (-1 + ((us ++ [v]).toArray.size : Int)).toNat = us.length := by rw [hz]; omega
  rw [e]; simp
end
theorem pl_length (x n : Nat) : (pl x n).length = n := by
  induction n with
  | zero => rfl
  | succ n ih => rw [pl, List.length_append, ih]; rfl
theorem pl_last (x j : Nat) : (pl x (j + 1)).getD (-1 + ((pl x (j + 1)).length : Int)).toNat 0 = ((iter powStep j x : Nat) : Int) := by
  have e : (-1 + ((pl x (j + 1)).length : Int)).toNat = (pl x j).length := by rw [pl_length, pl_length]; omega
  rw [e, pl, List.getD_eq_getElem?_getD, List.getElem?_append_right (Nat.le_refl _)]
  simp
theorem ints_snoc {vs : List Value} {ns : List Int} (h : IntsAre vs ns) (n : Int) (t : Tok) : IntsAre (vs ++ [.int n t]) (ns ++ [n]) := by
  induction h with
  | nil => exact .cons _ _ .nil
  | cons n t _ ih => exact .cons _ _ ih
theorem red_on {p i : Nat} (hi : i < 8) (h : Builtin.bitAnd ((red p i : Int).fdiv (2 ^ (7 + (i : Int) * -1 + 32).toNat)) 1 ≠ 0) : Builtin.bitXor (red p i : Int) (4374732215 * 2 ^ (7 + (i : Int) * -1).toNat) = ((red p (i + 1) : Nat) : Int) := by
  have e1 : (7 + (i : Int) * -1 + 32).toNat = 7 - i + 32 := by omega
  have e2 : (7 + (i : Int) * -1).toNat = 7 - i := by omega
  rw [e1, fdp, ba1] at h
  have e3 : (4374732215 : Int) * 2 ^ (7 + (i : Int) * -1).toNat = ((4374732215 * 2 ^ (7 - i) : Nat) : Int) := by rw [e2, Int.natCast_mul, kbt_cast]; rfl
  rw [e3, bx, red, if_pos (by omega)]
theorem red_off {p i : Nat} (hi : i < 8) (h : Builtin.bitAnd ((red p i : Int).fdiv (2 ^ (7 + (i : Int) * -1 + 32).toNat)) 1 = 0) : (red p i : Int) = ((red p (i + 1) : Nat) : Int) := by
  have e1 : (7 + (i : Int) * -1 + 32).toNat = 7 - i + 32 := by omega
  rw [e1, fdp, ba1] at h
  rw [red, if_neg (by omega)]
section
variable {w : World} {dp un : Nat} {fr : Option (List Env)} {gd : Option (List Code)} {s : Shared} {Q E : Value → Shared → Prop}
theorem powers_c (W : Wd w s.heap) (hd : dp + 20 < recursionLimit) (hu : un + 100 < cLine) {x y : Nat} {t t2 : Tok} (hb : ∀ j, iter powStep j x < 2 ^ 32) (hy : 1 ≤ y) (hy2 : y ≤ 100)
   (hQ : ∀ l vs c h' tk, Kp s.heap h' → s.heap.get? l = none → h'.get? l = some (listOf vs.toArray c) → IntsAre vs (pl x y) → Q (.ref l) {s with heap := h', toks := tk}) : wpAny (Mo w) (Am dp un fr gd) (call (.ref 65) [.int (x : Int) t, .int (y : Int) t2]) Q E s := by
  obtain ⟨X, ⟨pT, loose, mean, mg, mb, T⟩, CH⟩ := id W
  refine enter (K := Mine.hd.heap_39 w.params) (binds := [(Str.ofString "first", .int (x : Int) t), (Str.ofString "size", .int (y : Int) t2)]) (fun v h' => ∃ l vs c, v = .ref l ∧ s.heap.get? l = none ∧ h'.get? l = some (listOf vs.toArray c) ∧ IntsAre vs (pl x y)) X T.nolimit (by omega) (by k_is) (by k_is) (by exact BindsTo.of_eq rfl) (by exact locs rfl) ?_ ?_ (by decide) (by rfl) (by rfl) (by rfl)
  rotate_left
  · intro v h' tk k e; obtain ⟨l, vs, c, rfl, e1, e2, e3⟩ := e; exact hQ l vs c h' tk k e1 e2 e3
  intro L h₁ tk F
  have N0 : News s.heap L h₁ [] := News.nil
  walk_at "go"
  rename Fr _ _ _ _ => F
  rename News _ _ _ _ => N
  rename_i l' _ _ _
  refine while_loop (n := y - 1) (fun k m led => m (Str.ofString "size") = some (.int (y : Int) t2) ∧ m (Str.ofString "powers") = some (.ref l') ∧ ∃ j us u c, j < y ∧ k = y - 1 - j ∧ led = [(l', listOf (us ++ [.int ((iter powStep j x : Nat) : Int) u]).toArray c)] ∧ IntsAre (us ++ [.int ((iter powStep j x : Nat) : Int) u]) (pl x (j + 1))) F N ⟨rfl, rfl, 0, [], t, _, hy, rfl, rfl, .cons _ _ .nil⟩ ?_
  rintro i m₁ led₁ h tk ⟨m1, m2, j, us, u, c, hj, rfl, rfl, hI⟩ F₁ N₁
  replace F₁ := Fr.seen F₁ m1
  replace F₁ := Fr.seen (x := Str.ofString "powers") (v := .ref l') F₁ m2
  have hlen : (us ++ [Value.int ((iter powStep j x : Nat) : Int) u]).length = j + 1 := by rw [hI.length, pl_length]
  have hbj := hb j
  walk_at "go"
  refine len_at (N₁ _ (.head _)).1 hlen (by omega) ?_
  intro t3 tk3
  walk_at "go"
  · generalize hp : iter powStep j x = p at *
    refine wpAny_For ?_ (by intro _; rfl)
    walk_at "go"
    refine loop_range (n := 8) (fun i m led => led = [(l', listOf (us ++ [Value.int ((p : Nat) : Int) u]).toArray c)] ∧ m (Str.ofString "size") = some (.int (y : Int) t2) ∧ m (Str.ofString "powers") = some (.ref l') ∧ ∃ t, m (Str.ofString "power") = some (.int ((red p i : Nat) : Int) t))
      rfl (by assumption) (by decide) (by decide) (by assumption) (by assumption) ⟨rfl, rfl, rfl, _, vint ?_⟩ ?_ ?_ (by intro _ _; rfl)
    · rw [pl_last, hp, red]; omega
    · rintro i t₁ m₁ led₁ h tk I o hi ⟨rfl, m1, m2, t3, m3⟩ hIl F₁ N₁
      replace F₁ := Fr.seen F₁ m1
      replace F₁ := Fr.seen (x := Str.ofString "powers") (v := .ref l') F₁ m2
      replace F₁ := Fr.seen (x := Str.ofString "power") (v := .int ((red p i : Nat) : Int) t3) F₁ m3
      walk_at "go"
      · exact TE.mk' (by assumption) (by assumption) hIl ⟨rfl, rfl, rfl, _, vint (red_on hi (by assumption))⟩
      · exact TE.mk' (by assumption) (by assumption) hIl ⟨rfl, rfl, rfl, _, vint (red_off hi (by assumption))⟩
    · rintro h tk m' led' F₁ N₁ ⟨rfl, m1, m2, t3, m3⟩
      replace F₁ := Fr.seen F₁ m1
      replace F₁ := Fr.seen (x := Str.ofString "powers") (v := .ref l') F₁ m2
      replace F₁ := Fr.seen (x := Str.ofString "power") (v := .int ((red p 8 : Nat) : Int) t3) F₁ m3
      dsimp only
      walk_at "go"
      rename News _ _ _ _ => N
      have hpw : iter powStep (j + 1) x = red p 8 := by show powStep (iter powStep j x) = _; rw [hp]; rfl
      simp only [List.push_toArray] at N
      refine WE.mk' (y - 1 - (j + 1)) (by assumption) N (by omega) ⟨rfl, rfl, j + 1, _, t3, _, by omega, rfl, by rw [hpw], ?_⟩
      rw [hpw, pl, hpw]
      exact ints_snoc hI _ _
  · have hjy : j + 1 = y := by omega
    refine RE.ret F₁ ⟨l', _, c, rfl, (N₁ _ (.head _)).2.2, (N₁ _ (.head _)).1, ?_⟩
    rw [← hjy]; exact hI
end
def tldAt (R : List Nat) (t : Nat) : Nat → Nat
  | 0 => 0
  | p + 1 => tldAt R t p ^^^ iter powStep (t * (R.length - 1 - p)) (mirror (R.getD p 0))
def tldIn (R : List Nat) (p q : Nat) : List Int := (List.range 4).map fun t => (((if t < q then tldAt R t (p + 1) else tldAt R t p) : Nat) : Int)
def castL (R : List Nat) : List Int := R.map fun n : Nat => (n : Int)
section
variable {w : World} {dp un : Nat} {fr : Option (List Env)} {gd : Option (List Code)} {s : Shared} {Q E : Value → Shared → Prop}
theorem powers_c' (W : Wd w s.heap) (hd : dp + 20 < recursionLimit) (hu : un + 100 < cLine) {x y : Nat} {xi yi : Int} {t t2 : Tok} (hx : xi = (x : Int)) (hyi : yi = (y : Int)) (hb : ∀ j, iter powStep j x < 2 ^ 32) (hy : 1 ≤ y) (hy2 : y ≤ 100)
   (hQ : ∀ l vs c h' tk, Kp s.heap h' → s.heap.get? l = none → h'.get? l = some (listOf vs.toArray c) → IntsAre vs (pl x y) → Q (.ref l) {s with heap := h', toks := tk}) : wpAny (Mo w) (Am dp un fr gd) (call (.ref 65) [.int xi t, .int yi t2]) Q E s := by
  subst hx; subst hyi; exact powers_c W hd hu hb hy hy2 hQ
theorem over_c' (W : Wd w s.heap) (hd : dp + 20 < recursionLimit) (hu : un + 100 < cLine) {x y N : Nat} {xi yi : Int} {t t2 : Tok} (hx : xi = (x : Int)) (hyi : yi = (y : Int)) (hN : (ovAt x y N).low = 1) (hlt : ∀ j < N, (ovAt x y j).low ≠ 1)
   (hQ : ∀ t' h' tk, Kp s.heap h' → Q (.int (((if x = 0 then 0 else (ovAt x y N).mine) : Nat) : Int) t') {s with heap := h', toks := tk}) : wpAny (Mo w) (Am dp un fr gd) (call (.ref 79) [.int xi t, .int yi t2]) Q E s := by
  subst hx; subst hyi; exact over_c W hd hu hN hlt hQ
theorem mirrored_c' (W : Wd w s.heap) (hd : dp + 20 < recursionLimit) (hu : un + 100 < cLine) {n : Nat} {x : Int} {t : Tok} (hx : x = (n : Int))
   (hQ : ∀ t' h' tk, Kp s.heap h' → Q (.int ((mirror n : Nat) : Int) t') {s with heap := h', toks := tk}) : wpAny (Mo w) (Am dp un fr gd) (call (.ref 58) [.int x t]) Q E s := by
  subst hx; exact mirrored_c W hd hu (by omega) (by simpa using hQ)
end
theorem castL_getD (R : List Nat) (i : Nat) : (castL R).getD i 0 = ((R.getD i 0 : Nat) : Int) := by
  simp only [castL, List.getD_eq_getElem?_getD, List.getElem?_map]
  cases R[i]? <;> rfl
theorem castL_get {R : List Nat} {p : Nat} (h : p < R.length) : (castL R)[p]? = some ((R.getD p 0 : Nat) : Int) := by
  simp [castL, List.getD_eq_getElem?_getD, h]
theorem castL_length (R : List Nat) : (castL R).length = R.length := by simp [castL]
section
variable {w : World} {A : Around} {g : Heap} {L l : Addr} {s : Shared} {m : Str → Option Value} {rest : List (Addr × Obj)} {vs : List Value} {ns : List Int} {c i : Nat} {k x : Int} {t u : Tok} {E : Value → Shared → Prop}
theorem set_head {Q : Unit → Shared → Prop} (F : Fr g L s.heap m) (N : News g L s.heap ((l, listOf vs.toArray c) :: rest)) (hne : ∀ p ∈ rest, p.1 ≠ l) (hi : IntsAre vs ns) (hk : k = (i : Int)) (h1 : i < ns.length) (h2 : i < 2 ^ 62)
    (h : ∀ h' vs', Fr g L h' m → News g L h' ((l, listOf vs'.toArray c) :: rest) → IntsAre vs' (ns.set i x) → Q () { s with heap := h' }) : wpAny (Mo w) A (setItem (.ref l) (.int k t) (.int x u)) Q E s := by
  have e : k.toNat = i := by omega
  refine ksa_set F N (Upd.head hne) hi (by omega) (by omega) (by omega) fun h' F' N' hi' _ _ => ?_
  rw [e] at hi' N'
  exact h h' _ F' N' hi'
theorem sub_i {value slice : Expr} {Q : Value → Shared → Prop} (ho : s.heap.get? l = some (listOf vs.toArray c)) (hi : IntsAre vs ns) (hk : k = (i : Int)) (h1 : i < ns.length) (h2 : i < 2 ^ 62) (h : ∀ t, Q (.int (ns.getD i 0) t) s)
    (hs : subscripted slice false (.ref l) (.int k u) = operate [.ref l, .int k u] (getItem (.ref l) (.int k u)) := by with_unfolding_all rfl) :
    wpAny (Mo w) A (subscriptTail value slice (.ref l) (.int k u)) Q E s := by
  have hx : ns[i]? = some (ns.getD i 0) := by rw [List.getD_eq_getElem?_getD, List.getElem?_eq_getElem h1]; rfl
  obtain ⟨t, ht⟩ := hi.get i _ hx
  exact item_at ho hk h2 ht (h t) hs
end
theorem pl_getD (x : Nat) {n i : Nat} (h : i < n) : (pl x n).getD i 0 = ((iter powStep i x : Nat) : Int) := by
  induction n with
  | zero => omega
  | succ n ih =>
    rw [pl, List.getD_eq_getElem?_getD]
    by_cases q : i < n
    · rw [List.getElem?_append_left (by rw [pl_length]; exact q), ← List.getD_eq_getElem?_getD, ih q]
    · have e : i = n := by omega
      subst e
      rw [List.getElem?_append_right (by rw [pl_length]; omega), pl_length]
      simp
theorem tldIn_length (R : List Nat) (p q : Nat) : (tldIn R p q).length = 4 := by simp [tldIn]
theorem tldIn_get (R : List Nat) (p q : Nat) {i : Nat} (h : i < 4) : (tldIn R p q)[i]? = some (((if i < q then tldAt R i (p + 1) else tldAt R i p) : Nat) : Int) := by
  simp [tldIn, h]
theorem tldIn_getD (R : List Nat) (p q : Nat) {i : Nat} (h : i < 4) : (tldIn R p q).getD i 0 = (((if i < q then tldAt R i (p + 1) else tldAt R i p) : Nat) : Int) := by
  rw [List.getD_eq_getElem?_getD, tldIn_get R p q h]; rfl
theorem tldIn_set (R : List Nat) (p q : Nat) (h : q < 4) : (tldIn R p q).set q (Builtin.bitXor ((tldIn R p q).getD q 0) ((iter powStep (q * (R.length - 1 - p)) (mirror (R.getD p 0)) : Nat) : Int)) = tldIn R p (q + 1) := by
  rw [tldIn_getD _ _ _ h, if_neg (by omega), bx]
  refine List.ext_getElem? fun i => ?_
  by_cases hi : i < 4
  · rw [tldIn_get R p (q + 1) hi]
    by_cases e : q = i
    · subst e
      rw [List.getElem?_set_self (by rw [tldIn_length]; exact h), if_pos (by omega)]
      rfl
    · rw [List.getElem?_set_ne e, tldIn_get R p q hi]
      have : (i < q + 1) ↔ (i < q) := by omega
      simp only [this]
  · rw [List.getElem?_eq_none (by rw [List.length_set, tldIn_length]; omega), List.getElem?_eq_none (by rw [tldIn_length]; omega)]
theorem tldIn_next (R : List Nat) (p : Nat) : tldIn R p 4 = tldIn R (p + 1) 0 := by
  unfold tldIn
  refine List.map_congr_left fun t ht => ?_
  have := List.mem_range.mp ht
  rw [if_pos this, if_neg (by omega)]
section
variable {w : World} {dp un : Nat} {fr : Option (List Env)} {gd : Option (List Code)} {s : Shared} {Q E : Value → Shared → Prop}
theorem told_c (W : Wd w s.heap) (hd : dp + 25 < recursionLimit) (hu : un + 110 < cLine) {lr : Addr} {rs : List Value} {cr : Nat} {R : List Nat} (hr : s.heap.get? lr = some (listOf rs.toArray cr)) (hR : IntsAre rs (castL R)) (hn : 1 ≤ R.length) (hn2 : R.length ≤ 8)
   (hb : ∀ p j, iter powStep j (mirror (R.getD p 0)) < 2 ^ 32)
   (hQ : ∀ l vs c h' tk, Kp s.heap h' → s.heap.get? l = none → h'.get? l = some (listOf vs.toArray c) → IntsAre vs (tldIn R R.length 0) → Q (.ref l) {s with heap := h', toks := tk}) : wpAny (Mo w) (Am dp un fr gd) (call (.ref 72) [.ref lr]) Q E s := by
  obtain ⟨X, ⟨pT, loose, mean, mg, mb, T⟩, CH⟩ := id W
  refine enter (K := Mine.hd.heap_39 w.params) (binds := [(Str.ofString "row", .ref lr)]) (fun v h' => ∃ l vs c, v = .ref l ∧ s.heap.get? l = none ∧ h'.get? l = some (listOf vs.toArray c) ∧ IntsAre vs (tldIn R R.length 0)) X T.nolimit (by omega) (by k_is) (by k_is) (by exact BindsTo.of_eq rfl) (by exact locs rfl) ?_ ?_ (by decide) (by rfl) (by rfl) (by rfl)
  rotate_left
  · intro v h' tk k e; obtain ⟨l, vs, c, rfl, e1, e2, e3⟩ := e; exact hQ l vs c h' tk k e1 e2 e3
  intro L h₁ tk F
  have hlr : s.heap.IsList lr rs.toArray := ⟨_, hr, rfl, cr, rfl⟩
  have hlen : rs.length = R.length := by rw [hR.length]; simp [castL]
  have N0 : News s.heap L h₁ [] := News.nil
  walk_at "gs"
  rename Fr _ _ _ _ => F
  rename News _ _ _ _ => N
  rename_i l' _ _ _
  refine wpAny_For ?_ (by intro _; rfl)
  walk_at "gs"
  refine len_at (F.keep _ _ hr) hlen (by omega) ?_
  intro t3 tk3
  walk_at "gs"
  refine loop_range (n := ((R.length : Int) - 0).toNat) (fun p m led => m (Str.ofString "row") = some (.ref lr) ∧ m (Str.ofString "told") = some (.ref l') ∧ ∃ vs c, led = [(l', listOf vs.toArray c)] ∧ IntsAre vs (tldIn R p 0)) rfl (by assumption) (small_one (by omega) (by omega) (by omega) (by omega)) (rangeSize_nat _ _) (by assumption) (by assumption) ⟨rfl, rfl, [_, _, _, _], _, rfl, .cons _ _ (.cons _ _ (.cons _ _ (.cons _ _ .nil)))⟩ ?_ ?_ (by intro _ _; rfl)
  · rintro p t₁ m₁ led₁ h tk I o hp ⟨m1, m2, vs, c, rfl, hv⟩ hIl F₁ N₁
    replace F₁ := Fr.seen F₁ m1
    replace F₁ := Fr.seen (x := Str.ofString "told") (v := .ref l') F₁ m2
    have hp : p < R.length := by omega
    walk_at "gs"
    rename Fr _ _ _ _ => F
    rename News _ _ _ _ => N
    refine len_at (F.keep _ _ hr) hlen (by omega) ?_
    intro t4 tk4
    dsimp only
    walk_at "gs"
    rename Fr _ _ _ _ => F
    rename News _ _ _ _ => N
    obtain ⟨t5, hv5⟩ := hR.get p ((R.getD p 0 : Nat) : Int) (castL_get hp)
    refine item_at (F.keep _ _ hr) (i := p) (by omega) (by omega) hv5 ?_
    walk_at "gs"
    refine mirrored_c' (W.keeps F.keep) (by omega) (by omega) rfl ?_
    intro t6 h6 tk6 hk6
    replace F := F.keeps hk6
    replace N := N.grown hk6
    dsimp only
    walk_at "gs"
    refine powers_c' (x := mirror (R.getD p 0)) (y := 3 * (R.length - 1 - p) + 1) (W.keeps F.keep) (by omega) (by omega) rfl (by omega) (hb p) (by omega) (by omega) ?_
    intro l7 vs7 c7 h7 tk7 hk7 hf7 ho7 hi7
    obtain ⟨N7, hne7⟩ := News.add F N hk7 hf7 ho7
    replace F := F.keeps hk7
    clear N
    dsimp only
    walk_at "gs"
    rename Fr _ _ _ _ => F
    rename News _ _ _ _ => N
    have hne1 : l' ≠ I := hIl _ (.head _)
    have hne2 : l' ≠ l7 := hne7 _ (.tail _ (.head _))
    have N8 := kst_newsOf (l' := [(l', listOf vs.toArray c), (l7, listOf vs7.toArray c7), (I, o)]) N (by simp)
    clear N
    refine wpAny_For ?_ (by intro _; rfl)
    walk_at "gs"
    refine loop_range (n := 4) (fun q m led => m (Str.ofString "row") = some (.ref lr) ∧ m (Str.ofString "told") = some (.ref l') ∧ m (Str.ofString "powers") = some (.ref l7) ∧ (∃ t, m (Str.ofString "k") = some (.int ((R.length - 1 - p : Nat) : Int) t)) ∧
      ∃ vs c, led = [(l', listOf vs.toArray c), (l7, listOf vs7.toArray c7), (I, o)] ∧ IntsAre vs (tldIn R p q)) rfl (by assumption) (by decide) (by decide) (by assumption) (by assumption) ⟨rfl, rfl, rfl, ⟨_, vint ?_⟩, vs, c, rfl, hv⟩ ?_ ?_ (by intro _ _; rfl)
    · omega
    · rintro q t₁ m₁ led₁ h tk I2 o2 hq ⟨m1, m2, m3, ⟨t9, m4⟩, vs, c, rfl, hv⟩ hIl2 F₁ N₁
      replace F₁ := Fr.seen F₁ m1
      replace F₁ := Fr.seen (x := Str.ofString "told") (v := .ref l') F₁ m2
      replace F₁ := Fr.seen (x := Str.ofString "powers") (v := .ref l7) F₁ m3
      replace F₁ := Fr.seen (x := Str.ofString "k") (v := .int ((R.length - 1 - p : Nat) : Int) t9) F₁ m4
      walk_at "gs"
      rename Fr _ _ _ _ => F
      rename News _ _ _ _ => N
      refine sub_i (N _ (.tail _ (.head _))).1 hv (i := q) (by omega) (by rw [tldIn_length]; exact hq) (by omega) ?_
      intro t10
      walk_at "gs"
      have hqk : q * (R.length - 1 - p) < 3 * (R.length - 1 - p) + 1 := by
        have := Nat.mul_le_mul_right (R.length - 1 - p) (show q ≤ 3 by omega)
        omega
      refine sub_i (N _ (.tail _ (.tail _ (.head _)))).1 hi7 (i := q * (R.length - 1 - p)) ?_ (by rw [pl_length]; exact hqk) (by omega) ?_
      · rw [show (0 + (q : Int) * 1) = (q : Int) by omega, Int.natCast_mul]
      intro t11
      rw [pl_getD _ hqk]
      dsimp only
      walk_at "gs"
      rename Fr _ _ _ _ => F
      rename News _ _ _ _ => N
      have N9 := kst_newsOf (l' := (l', listOf vs.toArray c) :: [(I2, o2), (l7, listOf vs7.toArray c7), (I, o)]) N (by simp)
      refine set_head F N9 ?_ hv (i := q) (by omega) (by rw [tldIn_length]; exact hq) (by omega) ?_
      · intro p hp
        simp only [List.mem_cons, List.not_mem_nil, or_false] at hp
        rcases hp with rfl | rfl | rfl
        · exact Ne.symm (hIl2 _ (.head _))
        · exact Ne.symm hne2
        · exact Ne.symm hne1
      intro h9 vs9 F9 N9 hv9
      clear N
      rw [tldIn_set _ _ _ hq] at hv9
      dsimp only
      walk_at "gs"
      refine TE.mk' (by assumption) (kst_newsOf (l' := (I2, o2) :: [(l', listOf vs9.toArray c), (l7, listOf vs7.toArray c7), (I, o)]) (by assumption) (by simp)) ?_ ⟨rfl, rfl, rfl, ⟨_, rfl⟩, vs9, c, rfl, hv9⟩
      intro p hp
      simp only [List.mem_cons, List.not_mem_nil, or_false] at hp
      rcases hp with rfl | rfl | rfl
      · exact hIl2 (l', listOf vs.toArray c) (.head _)
      · exact hIl2 _ (.tail _ (.head _))
      · exact hIl2 _ (.tail _ (.tail _ (.head _)))
    · rintro h tk m' led' F₁ N₁ ⟨m1, m2, m3, ⟨t9, m4⟩, vs9, c9, rfl, hv9⟩
      rw [tldIn_next] at hv9
      dsimp only
      walk_at "gs"
      refine TE.mk' F₁ (kst_newsOf (l' := (I, o) :: [(l', listOf vs9.toArray c9)]) N₁ (by simp)) ?_ ⟨m1, m2, vs9, c9, rfl, hv9⟩
      intro p hp
      simp only [List.mem_cons, List.not_mem_nil, or_false] at hp
      subst hp; exact hne1
  · rintro h tk m' led' F₁ N₁ ⟨m1, m2, vs, c, rfl, hv⟩
    replace F₁ := Fr.seen F₁ m2
    rw [Int.sub_zero] at hv
    dsimp only
    walk_at "gs"
    exact RE.ret F₁ ⟨l', vs, c, rfl, (N₁ _ (.head _)).2.2, (N₁ _ (.head _)).1, hv⟩
end
section
variable {w : World} {A : Around} {s : Shared} {env : Env} {g : Heap} {L : Addr}
theorem loop_list {target : Expr} {body : List Stmt} {Q : Flow → Shared → Prop} {E : Value → Shared → Prop} {l : Addr} {vs : List Value} {c : Nat} {m : Str → Option Value} {led : List (Addr × Obj)}
    (J : Nat → (Str → Option Value) → List (Addr × Obj) → Prop) (hh : A.handled = none)
    (hl : g.get? l = some (listOf vs.toArray c) ∨ ∀ i m led, J i m led → (l, listOf vs.toArray c) ∈ led)
    (F : Fr g L s.heap m) (N : News g L s.heap led) (h0 : J 0 m led)
    (turn : ∀ i v m₁ led₁ h tk I o, i < vs.length → vs[i]? = some v → J i m₁ led₁ → (∀ p ∈ led₁, p.1 ≠ I) → Fr g L h m₁ → News g L h ((I, o) :: led₁) →
      wpAny (Mo w) A (assign target env v) (fun _ s₂ => wpAny (Mo w) A (execs body env) (TE s g L I o (J (i + 1))) (fun _ _ => False) s₂) (fun _ _ => False) { s with heap := h, toks := tk })
    (done : ∀ h tk m' led', Fr g L h m' → News g L h led' → J vs.length m' led' → Q .next { s with heap := h, toks := tk })
    (ht : ∀ I v, letOwnedTupleGo target (.ref I) v = pure ()) :
    wpAny (Mo w) A (pyIter (.ref l)) (fun it s₂ => codeAny (Mo w) A (.forLoop target it body [] env) (fun r s' => match r with | .ok f => Q f s' | .error e => cameBackBy (Mo w) A env E e s') s₂) E s := by
  have at' : ∀ i h m led, J i m led → Fr g L h m → News g L h led → h.get? l = some (listOf vs.toArray c) := fun i h m led hJ F N => by
    rcases hl with q | q
    · exact F.keep _ _ q
    · exact (N _ (q i m led hJ)).1
  have hol := at' 0 _ _ _ h0 F N
  have hls : s.heap.IsList l vs.toArray := ⟨_, hol, rfl, c, rfl⟩
  have hlt := Heap.lt_size hol
  have hne : l ≠ s.heap.objs.size := Nat.ne_of_lt hlt
  refine wpAny_pyIter_list hls ?_
  have W := Walks.list (prog := PySem.Challenge.rw_mr0031_01.row.prog) (w := w) hh s.heap.objs.size l hne vs.toArray
  rw [List.size_toArray] at W
  have hLt : L < s.heap.objs.size := F.ns.lt
  refine loop_gen (R := fun r s' => match r with | .ok f => Q f s' | .error e => cameBackBy (Mo w) A env E e s') J W (fun i h st => ?_) ?_ 0 (Nat.zero_le _) ⟨⟨_, Heap.get?_push_size _ rfl, rfl, rfl⟩, hls.at fun o e => Heap.get?_push_of_some _ e⟩ (F.push _) (fun p hp => ⟨Heap.get?_push_of_some _ (N p hp).1, (N p hp).2⟩) (Nat.ne_of_gt hLt) (next_is_new F) ?_ h0 ?_ ?_ (ht _)
  · obtain ⟨⟨o, ho, _⟩, _⟩ := st
    exact ⟨o, ho⟩
  · intro i h h' m m' led led' hJ F N hJ' F' N' e b hb o ho
    rcases List.mem_cons.mp hb with hb | hb
    · rw [hb] at ho ⊢
      exact e.symm.trans ho
    · rw [List.mem_singleton.mp hb] at ho ⊢
      rw [at' i h m led hJ F N] at ho
      rw [← ho]; exact at' (i + 1) h' m' led' hJ' F' N'
  · intro p hp e
    have := Heap.lt_size (N p hp).1
    rw [e] at this; exact absurd this (Nat.lt_irrefl _)
  · intro i v m₁ led₁ h tk o hi hv hJ hl F₁ N₁
    exact turn i v m₁ led₁ h tk _ o hi (by simpa using hv) hJ hl F₁ N₁
  · intro h tk m' led' F' N' hJ
    exact done h tk m' led' F' N' hJ
theorem loop_iter {target : Expr} {body : List Stmt} {R : Result → Shared → Prop} {I l : Addr} {vs : List Value} {c i0 : Nat} {m : Str → Option Value} {led : List (Addr × Obj)}
    (J : Nat → (Str → Option Value) → List (Addr × Obj) → Prop) (hh : A.handled = none) (hit : s.heap.IsListIter I l i0) (hl : g.get? l = some (listOf vs.toArray c)) (hi0 : i0 ≤ vs.length)
    (F : Fr g L s.heap m) (N : News g L s.heap led) (hIL : I ≠ L) (hIg : g.get? I = none) (hIl : ∀ p ∈ led, p.1 ≠ I) (h0 : J i0 m led)
    (turn : ∀ i v m₁ led₁ h tk o, i < vs.length → vs[i]? = some v → J i m₁ led₁ → (∀ p ∈ led₁, p.1 ≠ I) → Fr g L h m₁ → News g L h ((I, o) :: led₁) →
      wpAny (Mo w) A (assign target env v) (fun _ s₂ => wpAny (Mo w) A (execs body env) (TE s g L I o (J (i + 1))) (fun _ _ => False) s₂) (fun _ _ => False) { s with heap := h, toks := tk })
    (done : ∀ h tk m' led', Fr g L h m' → News g L h led' → J vs.length m' led' → R (.ok .next) { s with heap := h, toks := tk })
    (ht : ∀ I v, letOwnedTupleGo target (.ref I) v = pure ()) :
    codeAny (Mo w) A (.forLoop target (.ref I) body [] env) R s := by
  have hne : l ≠ I := fun e => by rw [e, hIg] at hl; cases hl
  have hls : s.heap.IsList l vs.toArray := ⟨_, F.keep _ _ hl, rfl, c, rfl⟩
  have W := Walks.list (prog := PySem.Challenge.rw_mr0031_01.row.prog) (w := w) hh I l hne vs.toArray
  rw [List.size_toArray] at W
  refine loop_gen J W (fun i h st => ?_) ?_ i0 hi0 ⟨hit, hls⟩ F N hIL hIg hIl h0 ?_ done (ht _)
  · obtain ⟨⟨o, ho, _⟩, _⟩ := st
    exact ⟨o, ho⟩
  · intro i h h' m m' led led' hJ F N hJ' F' N' e b hb o ho
    rcases List.mem_cons.mp hb with hb | hb
    · rw [hb] at ho ⊢
      exact e.symm.trans ho
    · rw [List.mem_singleton.mp hb] at ho ⊢
      rw [F.keep _ _ hl] at ho
      rw [← ho]; exact F'.keep _ _ hl
  · intro i v m₁ led₁ h tk o hi hv hJ hl F₁ N₁
    exact turn i v m₁ led₁ h tk o hi (by simpa using hv) hJ hl F₁ N₁
end
/-- the row changed by one number -/
def chg (n : Nat) (R : List Nat) (x : Int) : List Nat := R.set (x.fmod n).toNat (R.getD (x.fmod n).toNat 0 ^^^ ((x.fdiv n).fmod (2 ^ 32)).toNat)
def twoOf (S : List Int) : List Int := S.take 2 ++ ([7, 5] : List Int).drop (S.take 2).length
def changedL (R : List Nat) (S : List Int) : List Nat := (twoOf S).foldl (chg R.length) R
theorem chg_length (n : Nat) (R : List Nat) (x : Int) : (chg n R x).length = R.length := by simp [chg]
theorem chgs_length (n : Nat) (X : List Int) : ∀ R : List Nat, (X.foldl (chg n) R).length = R.length := by
  induction X with
  | nil => intro R; rfl
  | cons x X ih => intro R; rw [List.foldl_cons, ih, chg_length]
theorem twoOf_length (S : List Int) : (twoOf S).length = 2 := by
  simp only [twoOf, List.length_append, List.length_drop, List.length_take, List.length_cons, List.length_nil]; omega
theorem castL_set (R : List Nat) (i x : Nat) : (castL R).set i (x : Int) = castL (R.set i x) := by
  simp [castL, List.map_set]
theorem chg_eq (R : List Nat) {n p : Nat} {x : Int} (hp : x.fmod (n : Int) = (p : Int)) : (castL R).set p (Builtin.bitXor ((castL R).getD p 0) ((x.fdiv (n : Int)).fmod (2 ^ Int.toNat 32))) = castL (chg n R x) := by
  have h0 : 0 ≤ (x.fdiv (n : Int)).fmod (2 ^ 32) := Int.fmod_nonneg_of_pos _ (by decide)
  obtain ⟨d, hd⟩ := Int.eq_ofNat_of_zero_le h0
  have e : (x.fdiv (n : Int)).fmod (2 ^ Int.toNat 32) = (d : Int) := hd
  rw [e, castL_getD, bx, castL_set, chg, hp, hd]
  rfl
section
variable {w : World} {dp un : Nat} {fr : Option (List Env)} {gd : Option (List Code)} {s : Shared} {Q E : Value → Shared → Prop}
theorem changed_c (W : Wd w s.heap) (hd : dp + 25 < recursionLimit) (hu : un + 110 < cLine) {lr : Addr} {rs : List Value} {cr : Nat} {R : List Nat} (hr : s.heap.get? lr = some (listOf rs.toArray cr)) (hR : IntsAre rs (castL R)) (hn : 1 ≤ R.length) (hn2 : R.length ≤ 8)
   {ls : Addr} {ss : List Value} {S : List Int} (hs : s.heap.IsList ls ss.toArray) (hS : IntsAre ss S) (hs2 : S.length ≤ 63) 
   (hQ : ∀ l vs c h' tk, Kp s.heap h' → s.heap.get? l = none → h'.get? l = some (listOf vs.toArray c) → IntsAre vs (castL (changedL R S)) → Q (.ref l) {s with heap := h', toks := tk}) : wpAny (Mo w) (Am dp un fr gd) (call (.ref 51) [.ref lr, .ref ls]) Q E s := by
  obtain ⟨X, ⟨pT, loose, mean, mg, mb, T⟩, CH⟩ := id W
  refine enter (K := Mine.hd.heap_39 w.params) (binds := [(Str.ofString "row", .ref lr), (Str.ofString "script", .ref ls)]) (fun v h' => ∃ l vs c, v = .ref l ∧ s.heap.get? l = none ∧ h'.get? l = some (listOf vs.toArray c) ∧ IntsAre vs (castL (changedL R S))) X T.nolimit (by omega) (by k_is) (by k_is) (by exact BindsTo.of_eq rfl) (by exact locs rfl) ?_ ?_ (by decide) (by rfl) (by rfl) (by rfl)
  rotate_left
  · intro v h' tk k e; obtain ⟨l, vs, c, rfl, e1, e2, e3⟩ := e; exact hQ l vs c h' tk k e1 e2 e3
  intro L h₁ tk F
  have hlr : s.heap.IsList lr rs.toArray := ⟨_, hr, rfl, cr, rfl⟩
  have hlen : rs.length = R.length := by rw [hR.length]; simp [castL]
  have hlen2 : ss.length = S.length := hS.length
  have N0 : News s.heap L h₁ [] := News.nil
  have hsz : ss.toArray.size ≤ sizeLine := by rw [List.size_toArray, hlen2, sizeLine_eq]; omega
  walk_at "gs"
  rename Fr _ _ _ _ => F
  rename News _ _ _ _ => N
  rename_i lc cc _ _ _
  refine wpAny_For ?_ (by intro _; rfl)
  walk_at "gs"
  refine kmk_slice_ints F N (F.lst hs) IsPart.none (IsPart.int _ _) hS (kmk_upto hS (by decide)) rfl ?_ (by with_unfolding_all rfl) (by intro _; with_unfolding_all rfl) hsz
  intro l1 v1 h1 F1 N1 lt1 hi1 _ _
  clear F N
  walk_at "gs"
  rename Fr _ _ _ _ => F
  rename News _ _ _ _ => N
  rename_i l2 h2 _
  refine kmk_slice_ints F N (F.lst hs) IsPart.none (IsPart.int _ _) hS (kmk_upto hS (by decide)) rfl ?_ (by with_unfolding_all rfl) (by intro _; with_unfolding_all rfl) hsz
  intro l3 v3 h3 F3 N3 lt3 hi3 _ _
  clear F N
  walk_at "gs"
  refine len_at (n := (S.take 2).length) (N3 _ (.head _)).1 hi3.length (by rw [List.length_take]; omega) ?_
  intro t3 tk3
  dsimp only
  walk_at "gs"
  refine kba_turn (value' := PySem.Expr.Name (PySem.Str.ofString "_") ⟨0, 0, 0, 0⟩) (fun _ => rfl) ?_
  refine kmk_slice_ints (ns := [7, 5]) F3 N3 (N3.isList (.tail _ (.head _))) (IsPart.int _ _) IsPart.none (.cons _ _ (.cons _ _ .nil)) (kmk_from (.cons _ _ (.cons _ _ .nil)) (by omega)) rfl ?_ (by with_unfolding_all rfl) (by intro _; with_unfolding_all rfl) (by exact Nat.le_of_ble_eq_true rfl)
  intro l4 v4 h4 F4 N4 lt4 hi4 _ _
  clear F3 N3
  walk_at "gs"
  refine kmk_add_ints F4 N4 (N4.isList (.tail _ (.tail _ (.tail _ (.head _))))) (N4.isList (.head _)) hi1 hi4 ?_ ?_
  rotate_left
  · rw [List.length_take, List.length_drop, sizeLine_eq]; simp only [List.length_cons, List.length_nil]; omega
  intro lx vx h5 F5 N5 lt5 hi5
  have hi5 : IntsAre vx (twoOf S) := hi5
  have hlx : lc < lx := lt5 _ (.tail _ (.tail _ (.tail _ (.tail _ (.head _)))))
  have N6 := kst_newsOf (l' := [(lc, listOf rs.toArray cc), (lx, listOf vx.toArray 0)]) N5 (by simp)
  clear F4 N4 N5
  dsimp only
  walk_at "gs"
  refine loop_list (vs := vx) (c := 0) (fun i m led => m (Str.ofString "row") = some (.ref lr) ∧ m (Str.ofString "changed") = some (.ref lc) ∧ ∃ vs c, led = [(lc, listOf vs.toArray c), (lx, listOf vx.toArray 0)] ∧ IntsAre vs (castL (((twoOf S).take i).foldl (chg R.length) R))) rfl (.inr ?_) F5 N6 ⟨rfl, rfl, rs, cc, rfl, hR⟩ ?_ ?_ (by intro _ _; rfl)
  · rintro i m led ⟨_, _, vs, c, rfl, _⟩
    exact .tail _ (.head _)
  · rintro i v m₁ led₁ h tk I o hi hv ⟨m1, m2, vs, c, rfl, hvs⟩ hIl F₁ N₁
    replace F₁ := Fr.seen F₁ m1
    replace F₁ := Fr.seen (x := Str.ofString "changed") (v := .ref lc) F₁ m2
    have hlen5 : vx.length = 2 := by rw [hi5.length, twoOf_length]
    have hi2 : i < (twoOf S).length := by rw [twoOf_length]; omega
    obtain ⟨tx, hx⟩ := hi5.get i ((twoOf S).getD i 0) (by rw [List.getD_eq_getElem?_getD, List.getElem?_eq_getElem hi2]; rfl)
    rw [hx] at hv
    cases hv
    have htk : (twoOf S).take (i + 1) = (twoOf S).take i ++ [(twoOf S).getD i 0] := by
      rw [List.take_add_one, List.getD_eq_getElem?_getD, List.getElem?_eq_getElem hi2]; rfl
    generalize (twoOf S).getD i 0 = x at *
    generalize hR' : ((twoOf S).take i).foldl (chg R.length) R = R' at *
    have hRl : R'.length = R.length := by rw [← hR', chgs_length]
    have hp0 : 0 ≤ x.fmod (R.length : Int) := Int.fmod_nonneg_of_pos x (by omega)
    have hp1 : x.fmod (R.length : Int) < (R.length : Int) := Int.fmod_lt_of_pos x (by omega)
    obtain ⟨p, hp⟩ := Int.eq_ofNat_of_zero_le hp0
    have hpl : p < R'.length := by omega
    have hlcI : lc ≠ I := hIl _ (.head _)
    have hlcx : lx ≠ lc := Ne.symm (Nat.ne_of_lt hlx)
    have hlxI : lx ≠ I := hIl _ (.tail _ (.head _))
    walk_at "gs"
    rename Fr _ _ _ _ => F
    refine len_at (F.keep _ _ hr) hlen (by omega) ?_
    intro t6 tk6
    dsimp only
    walk_at "gs"
    rename Fr _ _ _ _ => F
    rename News _ _ _ _ => N
    refine sub_i (N _ (.tail _ (.head _))).1 hvs (i := p) hp (by rw [castL_length]; exact hpl) (by omega) ?_
    intro t7
    walk_at "gs"
    refine len_at (F.keep _ _ hr) hlen (by omega) ?_
    intro t8 tk8
    dsimp only
    walk_at "gs"
    have N9 := kst_newsOf (l' := (lc, listOf vs.toArray c) :: [(I, o), (lx, listOf vx.toArray 0)]) N (by simp)
    refine set_head F N9 ?_ hvs (i := p) hp (by rw [castL_length]; exact hpl) (by omega) ?_
    · intro q hq
      simp only [List.mem_cons, List.not_mem_nil, or_false] at hq
      rcases hq with rfl | rfl
      · exact Ne.symm hlcI
      · exact hlcx
    intro h9 vs9 F9 N9 hv9
    clear N F
    dsimp only
    walk_at "gs"
    refine TE.mk' (by assumption) (kst_newsOf (l' := (I, o) :: [(lc, listOf vs9.toArray c), (lx, listOf vx.toArray 0)]) (by assumption) (by simp)) ?_ ⟨rfl, rfl, vs9, c, rfl, ?_⟩
    · intro q hq
      simp only [List.mem_cons, List.not_mem_nil, or_false] at hq
      rcases hq with rfl | rfl
      · exact hlcI
      · exact hlxI
    · rw [htk, List.foldl_append, hR', List.foldl_cons, List.foldl_nil]
      rw [chg_eq R' (n := R.length) hp] at hv9
      exact hv9
  · rintro h tk m' led' F₁ N₁ ⟨m1, m2, vs, c, rfl, hvs⟩
    replace F₁ := Fr.seen F₁ m2
    have hlen5 : vx.length = (twoOf S).length := hi5.length
    rw [hlen5, List.take_length] at hvs
    dsimp only
    walk_at "gs"
    exact RE.ret F₁ ⟨lc, vs, c, rfl, (N₁ _ (.head _)).2.2, (N₁ _ (.head _)).1, hvs⟩
end
theorem kind_iter : builtinKind "iter" = none := by decide +kernel
theorem plain_iter : plainId "iter" = true := by decide +kernel
theorem entry_iter : entryFor table "iter" = some Builtin.«iter» := entryFor_of_fast (by kernel_rfl)
theorem args_iter (a : Value) : argsOk "iter" ⟨[a], []⟩ := by unfold argsOk; kernel_rfl
theorem kind_next : builtinKind "next" = none := by decide +kernel
theorem plain_next : plainId "next" = true := by decide +kernel
theorem entry_next : entryFor table "next" = some Builtin.«next» := entryFor_of_fast (by kernel_rfl)
theorem args_next (a : Value) : argsOk "next" ⟨[a], []⟩ := by unfold argsOk; kernel_rfl
section
variable {w : World} {A : Around} {s : Shared} {E : Value → Shared → Prop}
theorem call_iter_list {l : Addr} {items : Array Value} {Q : Value → Shared → Prop} (hl : s.heap.IsList l items)
    (hQ : Q (.ref s.heap.objs.size) { s with heap := s.heap.push { cls := .type "list_iterator", data := .fields #[.ref l, .int 0 0] } }) : wpAny (Mo w) A (call (.builtin "iter") [.ref l]) Q E s := by
  refine call_function_entry kind_iter plain_iter entry_iter (args_iter _) ?_
  unfold Builtin.«iter»
  refine wpAny_bind (m := someArgs "iter" 1 2 _) (wpAny_pure ?_)
  exact wpAny_bind (m := pyIter (.ref l)) (wpAny_pyIter_list hl (wpAny_pure ⟨_, rfl, hQ⟩))
theorem call_next_list {it l : Addr} {i : Nat} {items : Array Value} {x : Value} {Q : Value → Shared → Prop} (hit : s.heap.IsListIter it l i)
    (hl : s.heap.IsList l items) (hx : items[i]? = some x)
    (hQ : ∀ h', h'.IsListIter it l (i + 1) → Heap.SameBut it s.heap h' → Q x { s with heap := h' }) : wpAny (Mo w) A (call (.builtin "next") [.ref it]) Q E s := by
  obtain ⟨o, ho, hc, hd⟩ := id hit
  obtain ⟨ol, hol, _, nl, hdl⟩ := hl
  refine call_function_entry kind_next plain_next entry_next (args_next _) ?_
  unfold Builtin.«next»
  refine wpAny_bind (m := someArgs "next" 1 2 _) (wpAny_pure ?_)
  refine wpAny_bind (m := specialOf (.ref it) (Str.ofString "__next__")) (wpAny_specialOf hit.typeIs slot_listiter_next.lookup ?_)
  show wpAny _ _ (callSpecial? (.ref it) (Str.ofString "__next__") >>= _) _ _ s
  refine wpAny_bind (wpAny_callSpecial?_slot (name := Str.ofString "__next__") hit.typeIs slot_listiter_next
    (wpAny_call_entry slot_listiter_next hit.typeIs entry_listiter_next ?_ (args_listiter_next _)))
  show wpAny _ _ (field (.ref it) 0 >>= _) _ _ s
  refine wpAny_bind (wpAny_field ho hd (x := .ref l) rfl ?_)
  show wpAny _ _ (if (Value.ref l == Value.none) = true then _ else _) _ _ s
  rw [if_neg (show ¬ ((Value.ref l == Value.none) = true) from Bool.false_ne_true)]
  show wpAny _ _ (field (.ref it) 1 >>= _) _ _ s
  refine wpAny_bind (wpAny_field ho hd (x := .int i 0) rfl ?_)
  show wpAny _ _ (seqItems? (.ref l) >>= _) _ _ s
  refine wpAny_bind (wpAny_seqItems hol hdl ?_)
  simp only [Int.toNat_natCast, hx]
  refine wpAny_bind (wpAny_setField ho hd (by simp) (wpAny_pure ⟨x, rfl, wpAny_pure ⟨_, rfl, hQ _ ?_ (Heap.SameBut.update ..)⟩⟩))
  exact ⟨_, Heap.get?_update_self _ ho (Obj.isFreed_of_fields (Obj.data_mapFields hd _)), (Obj.cls_mapFields ..).trans hc, by
    rw [Obj.data_mapFields hd]; simp [rawInt]⟩
end
/-- a def's call on two ints, told by a function -/
def Folds (w : World) (h : Heap) (f : Addr) (dp un : Nat) (step : Nat → Nat → Nat) : Prop :=
  ∀ (a b : Nat) (t t2 : Tok) (fr : Option (List Env)) (gd : Option (List Code)) (s : Shared) (Q : Value → Shared → Prop) (E : Value → Shared → Prop), Kp h s.heap →
    (∀ t' h' tk, Kp s.heap h' → Q (.int ((step a b : Nat) : Int) t') {s with heap := h', toks := tk}) → wpAny (Mo w) (Am dp un fr gd) (call (.ref f) [.int (a : Int) t, .int (b : Int) t2]) Q E s
section
variable {w : World} {dp un : Nat} {fr : Option (List Env)} {gd : Option (List Code)} {s : Shared} {Q E : Value → Shared → Prop}
theorem reduce_c2 (W : Wd w s.heap) (hd : dp + 30 < recursionLimit) (hu : un + 120 < cLine) {f l : Addr} {vs : List Value} {c : Nat} {R : List Nat} {step : Nat → Nat → Nat} (hl : s.heap.get? l = some (listOf vs.toArray c)) (hR : IntsAre vs (castL R)) (hn : 1 ≤ R.length) (hn2 : R.length ≤ 8)
   {fo : Obj} {fd : FuncData} (hfo : s.heap.get? f = some fo) (hfd : fo.data = .func fd) (hf : Folds w s.heap f (dp + 1) (un + 3) step)
   (hQ : ∀ t' h' tk, Kp s.heap h' → Q (.int ((R.tail.foldl step (R.headD 0) : Nat) : Int) t') {s with heap := h', toks := tk}) : wpAny (Mo w) (Am dp un fr gd) (call (.ref 30) [.ref f, .ref l]) Q E s := by
  obtain ⟨X, ⟨pT, loose, mean, mg, mb, T⟩, CH⟩ := id W
  refine enter (K := Mine.hd.heap_39 w.params) (binds := [(Str.ofString "function", .ref f), (Str.ofString "sequence", .ref l), (Str.ofString "initial", .ref 22)]) (fun v _ => ∃ t', v = .int ((R.tail.foldl step (R.headD 0) : Nat) : Int) t') X T.nolimit (by omega) (by k_is) (by k_is) (by exact binds_K X rfl (by k_is) rfl rfl rfl) (by exact locs rfl) ?_ ?_ (by decide) (by rfl) (by rfl) (by rfl)
  rotate_left
  · intro v h' tk k e; obtain ⟨t', rfl⟩ := e; exact hQ t' h' tk k
  intro L h₁ tk F
  have N0 : News s.heap L h₁ [] := News.nil
  have hls : s.heap.IsList l vs.toArray := ⟨_, hl, rfl, c, rfl⟩
  walk_at "gs"
  refine call_iter_list (F.lst hls) ?_
  have F2 := F.push { cls := .type "list_iterator", data := .fields #[.ref l, .int 0 0] }
  have N2 := News.push F N0 { cls := .type "list_iterator", data := .fields #[.ref l, .int 0 0] } rfl
  clear F N0
  dsimp only
  walk_at "gs"
  walk1
  walk_at "gs"
  rename Fr _ _ _ _ => F
  rename News _ _ _ _ => N
  generalize h₁.objs.size = I at *
  have hIg := (N _ (.head _)).2
  have hlen : vs.length = R.length := by rw [hR.length, castL_length]
  obtain ⟨t0, hv0⟩ := hR.get 0 ((R.getD 0 0 : Nat) : Int) (castL_get (by omega))
  refine call_next_list (i := 0) ⟨_, (N _ (.head _)).1, rfl, rfl⟩ (F.lst hls) (by simpa using hv0) ?_
  intro h2 hit2 hs2
  replace F := F.change hs2 hIg.1 hIg.2
  obtain ⟨o2, ho2, hc2, hd2⟩ := hit2
  replace N : News s.heap L h2 [(I, o2)] := fun p hp => by
    rw [List.mem_singleton.mp hp]; exact ⟨ho2, hIg.1, hIg.2⟩
  dsimp only
  walk_at "gs"
  rename Fr _ _ _ _ => F
  rename News _ _ _ _ => N
  refine wpAny_For ?_ (by intro _; rfl)
  walk_at "gs"
  refine wpAny_pyIter_listiter (i := 1) (l := l) ⟨o2, (N _ (.head _)).1, hc2, hd2⟩ ?_
  refine loop_iter (vs := vs) (c := c) (i0 := 1) (fun i m led => led = [] ∧ 1 ≤ i ∧ m (Str.ofString "function") = some (.ref f) ∧ ∃ t, m (Str.ofString "value") = some (.int (((R.tail.take (i - 1)).foldl step (R.headD 0) : Nat) : Int) t)) rfl ⟨o2, (N _ (.head _)).1, hc2, hd2⟩ hl (by omega) F News.nil hIg.1 hIg.2 (fun _ h => nomatch h) ⟨rfl, Nat.le_refl _, rfl, t0, ?_⟩ ?_ ?_ (by intro _ _; rfl)
  · show some (Value.int ((R.getD 0 0 : Nat) : Int) t0) = _
    cases R with
    | nil => rfl
    | cons a r => rfl
  · rintro i v m₁ led₁ h tk o hi hv ⟨rfl, hi1, m1, t1, m2⟩ hIl F₁ N₁
    replace F₁ := Fr.seen F₁ m1
    replace F₁ := Fr.seen (x := Str.ofString "value") (v := .int (((R.tail.take (i - 1)).foldl step (R.headD 0) : Nat) : Int) t1) F₁ m2
    obtain ⟨tx, hx⟩ := hR.get i ((R.getD i 0 : Nat) : Int) (castL_get (by omega))
    rw [hx] at hv
    cases hv
    walk_at "gs"
    rename Fr _ _ _ _ => F
    rename News _ _ _ _ => N
    refine hf _ _ _ _ _ _ _ _ _ ?_ ?_
    · exact F.keep
    intro t3 h3 tk3 hk3
    replace F := F.keeps hk3
    replace N := N.grown hk3
    dsimp only
    walk_at "gs"
    refine TE.mk' (by assumption) (by assumption) hIl ⟨rfl, by omega, rfl, _, vint ?_⟩
    have htk : R.tail.take (i + 1 - 1) = R.tail.take (i - 1) ++ [R.getD i 0] := by
      cases R with
      | nil => exact absurd hn (by decide)
      | cons a r =>
        obtain ⟨j, rfl⟩ : ∃ j, i = j + 1 := ⟨i - 1, by omega⟩
        have hj : j < r.length := by simp only [List.length_cons] at hlen; omega
        show r.take (j + 1) = r.take j ++ [(a :: r).getD (j + 1) 0]
        rw [List.take_add_one, List.getD_cons_succ, List.getD_eq_getElem?_getD, List.getElem?_eq_getElem hj]; rfl
    rw [htk, List.foldl_append]; rfl
  · rintro h tk m' led' F₁ N₁ ⟨rfl, hi1, m1, t1, m2⟩
    replace F₁ := Fr.seen F₁ m2
    dsimp only
    walk_at "gs"
    refine RE.ret F₁ ⟨t1, ?_⟩
    have e : R.tail.take (vs.length - 1) = R.tail := List.take_of_length_le (by rw [List.length_tail]; omega)
    rw [e]
end
section
variable {w : World} {dp un : Nat} {fr : Option (List Env)} {gd : Option (List Code)} {s : Shared} {Q E : Value → Shared → Prop}
theorem reduce_c3 (W : Wd w s.heap) (hd : dp + 30 < recursionLimit) (hu : un + 120 < cLine) {f l : Addr} {vs : List Value} {c : Nat} {R : List Nat} {a : Nat} {ta : Tok} {step : Nat → Nat → Nat} (hl : s.heap.get? l = some (listOf vs.toArray c)) (hR : IntsAre vs (castL R)) (hn2 : R.length ≤ 8)
   {fo : Obj} {fd : FuncData} (hfo : s.heap.get? f = some fo) (hfd : fo.data = .func fd) (hf : Folds w s.heap f (dp + 1) (un + 3) step)
   (hQ : ∀ t' h' tk, Kp s.heap h' → Q (.int ((R.foldl step a : Nat) : Int) t') {s with heap := h', toks := tk}) : wpAny (Mo w) (Am dp un fr gd) (call (.ref 30) [.ref f, .ref l, .int (a : Int) ta]) Q E s := by
  obtain ⟨X, ⟨pT, loose, mean, mg, mb, T⟩, CH⟩ := id W
  refine enter (K := Mine.hd.heap_39 w.params) (binds := [(Str.ofString "function", .ref f), (Str.ofString "sequence", .ref l), (Str.ofString "initial", .int (a : Int) ta)]) (fun v _ => ∃ t', v = .int ((R.foldl step a : Nat) : Int) t') X T.nolimit (by omega) (by k_is) (by k_is) (by first | exact binds_K X rfl (by k_is) rfl rfl rfl | exact BindsTo.of_eq rfl) (by exact locs rfl) ?_ ?_ (by decide) (by rfl) (by rfl) (by rfl)
  rotate_left
  · intro v h' tk k e; obtain ⟨t', rfl⟩ := e; exact hQ t' h' tk k
  intro L h₁ tk F
  have N0 : News s.heap L h₁ [] := News.nil
  have hls : s.heap.IsList l vs.toArray := ⟨_, hl, rfl, c, rfl⟩
  have hlen : vs.length = R.length := by rw [hR.length, castL_length]
  walk_at "gs"
  refine call_iter_list (F.lst hls) ?_
  have F2 := F.push { cls := .type "list_iterator", data := .fields #[.ref l, .int 0 0] }
  have N2 := News.push F N0 { cls := .type "list_iterator", data := .fields #[.ref l, .int 0 0] } rfl
  clear F N0
  dsimp only
  walk_at "gs"
  refine wpAny_is_other (by rfl) (by intro x; cases x) ?_
  walk_at "gs"
  rename Fr _ _ _ _ => F
  rename News _ _ _ _ => N
  generalize h₁.objs.size = I at *
  have hIg := (N _ (.head _)).2
  refine wpAny_For ?_ (by intro _; rfl)
  walk_at "gs"
  refine wpAny_pyIter_listiter (i := 0) (l := l) ⟨_, (N _ (.head _)).1, rfl, rfl⟩ ?_
  refine loop_iter (vs := vs) (c := c) (i0 := 0) (fun i m led => led = [] ∧ m (Str.ofString "function") = some (.ref f) ∧ ∃ t, m (Str.ofString "value") = some (.int (((R.take i).foldl step a : Nat) : Int) t)) rfl ⟨_, (N _ (.head _)).1, rfl, rfl⟩ hl (by omega) F News.nil hIg.1 hIg.2 (fun _ h => nomatch h) ⟨rfl, rfl, ta, rfl⟩ ?_ ?_ (by intro _ _; rfl)
  · rintro i v m₁ led₁ h tk o hi hv ⟨rfl, m1, t1, m2⟩ hIl F₁ N₁
    replace F₁ := Fr.seen F₁ m1
    replace F₁ := Fr.seen (x := Str.ofString "value") (v := .int (((R.take i).foldl step a : Nat) : Int) t1) F₁ m2
    have hi2 : i < R.length := by omega
    obtain ⟨tx, hx⟩ := hR.get i ((R.getD i 0 : Nat) : Int) (castL_get hi2)
    rw [hx] at hv
    cases hv
    walk_at "gs"
    rename Fr _ _ _ _ => F
    rename News _ _ _ _ => N
    refine hf _ _ _ _ _ _ _ _ _ ?_ ?_
    · exact F.keep
    intro t3 h3 tk3 hk3
    replace F := F.keeps hk3
    replace N := N.grown hk3
    dsimp only
    walk_at "gs"
    refine TE.mk' (by assumption) (by assumption) hIl ⟨rfl, rfl, _, vint ?_⟩
    have htk : R.take (i + 1) = R.take i ++ [R.getD i 0] := by
      rw [List.take_add_one, List.getD_eq_getElem?_getD, List.getElem?_eq_getElem hi2]; rfl
    rw [htk, List.foldl_append]; rfl
  · rintro h tk m' led' F₁ N₁ ⟨rfl, m1, t1, m2⟩
    replace F₁ := Fr.seen F₁ m2
    dsimp only
    walk_at "gs"
    refine RE.ret F₁ ⟨t1, ?_⟩
    rw [hlen, List.take_length]
end
theorem vi {a b : Int} {t : Tok} (e : a = b) : Value.int a t = Value.int b t := by rw [e]
section
variable {w : World} {dp un : Nat} {fr : Option (List Env)} {gd : Option (List Code)} {s : Shared} {Q E : Value → Shared → Prop}
/-- a call of a lambda -/
theorem enterE {f : Addr} {fo : Obj} {name qual : Str} {params : Arguments} {body : Expr} {scope : Scope} {cl : List (Str × Addr)} {pm cdv ct : Value} {args : List Value} {binds : List (Str × Value)}
    (P : Value → Heap → Prop) (hlim : s.heap.NoLimit) (hd : dp < recursionLimit) (hfo : s.heap.get? f = some fo) (hfd : fo.data = .func (kla_fn name qual params body scope cl pm cdv ct)) (hcd : s.heap.CodeRec cdv qual)
    (hbind : BindsTo s (kla_fn name qual params body scope cl pm cdv ct) ⟨args, []⟩ binds) (hloc : ∀ y ∈ binds, scope.names.lookup y.1 = some .local)
    (h : ∀ L h₁ tk, Fr s.heap L h₁ (fun x => binds.reverse.lookup x) →
      wpAny (Mo w) (Am (dp + 1) (un + 3) (fr.map (envX qual scope L f cdv cl :: ·)) gd) (eval body (envX qual scope L f cdv cl))
        (fun v s' => RE s P (.ret v) s') (fun _ _ => False) { s with heap := h₁, toks := tk })
    (hQ : ∀ v h' tk, Kp s.heap h' → P v h' → Q v { s with heap := h', toks := tk })
    (hcell : ∀ x ∈ scope.names, x.2 ≠ .cell) (hco : scope.isCoroutine = false) (hgen : scope.isGenerator = false) (hk : scope.kind = .function) :
    wpAny (Mo w) (Am dp un fr gd) (call (.ref f) args) Q E s := by
  refine wpAny_call (kla_callFunE (fd := kla_fn name qual params body scope cl pm cdv ct) (body := body) hd hfo hfd hco hgen rfl hcd (hbind _ _ _ _ ?_))
  refine wpAny_newFunctionEnv hcell hloc (fun h₁ hns hsb => ⟨hlim.fresh _ hsb, ?_⟩) hk
  show codeAny _ _ (.expr body (envX qual scope s.heap.objs.size f cdv cl)) _ _
  have hk₁ : ∀ b o, s.heap.get? b = some o → h₁.get? b = some o := fun b o e => hsb.extBut b o (Nat.ne_of_lt (Heap.lt_size e)) (Heap.get?_push_of_some _ e)
  refine kla_codeExpr (wpAny_mono (h s.heap.objs.size h₁ _ ⟨hns, hk₁, Nat.le_refl _⟩) (fun v s' hl => ?_) fun _ _ x => x.elim)
  obtain ⟨h', tk, rfl, k, p⟩ := hl
  exact hQ _ h' tk k p
/-- how a def comes back that does not keep all -/
def RP (s : Shared) (P : Value → Heap → Prop) (fl : Flow) (s' : Shared) : Prop :=
  ∃ h' tk, s' = { s with heap := h', toks := tk } ∧ P (match fl with | .ret v => v | _ => .none) h'
theorem RP.ret {P : Value → Heap → Prop} {v : Value} {h' : Heap} {tk : Nat} (p : P v h') : RP s P (.ret v) { s with heap := h', toks := tk } :=
  ⟨h', tk, rfl, p⟩
/-- a call of a def with cells -/
theorem enterC {K : Frag} {f : Addr} {name qual : Str} {params : Arguments} {body : List Stmt} {scope : Scope} {dV kV doc pm cdv ct oc : Value} {an od : Option Addr} {osl : Array (Option Value)} {args : List Value} {binds : List (Str × Value)}
    (P : Value → Heap → Prop) (X : K.In s.heap) (hlim : s.heap.NoLimit) (hd : dp < recursionLimit)
    (ho : K.lookup f = some ⟨oc, od, .func (fnOf name qual params body scope dV kV doc pm an cdv ct), osl⟩) (hcd : codeIn K cdv qual = true)
    (hbind : BindsTo s (fnOf name qual params body scope dV kV doc pm an cdv ct) ⟨args, []⟩ binds)
    (hkind : (binds.all fun y => scope.names.lookup y.1 == some .local || scope.names.lookup y.1 == some .cell) = true)
    (hnd : ((cellsFrom 0 scope.names []).map (·.1)).Nodup)
    (h : ∀ L h₁ tk cells, Fr s.heap L h₁ (bindL (envOfC qual scope L f cdv).kindOf binds fun _ => none) → News s.heap L h₁ cells →
      CellsAre (bindC (envOfC qual scope L f cdv).kindOf binds fun _ => none) (cellsFrom (L + 1) scope.names []) cells → (∀ b o, s.heap.get? b = some o → b < L) →
      wpAny (Mo w) (Am (dp + 1) (un + 3) (fr.map (envOfC qual scope L f cdv :: ·)) gd) (execs body (envOfC qual scope L f cdv))
        (RP s P) (fun _ _ => False) { s with heap := h₁, toks := tk })
    (hQ : ∀ v h' tk, P v h' → Q v { s with heap := h', toks := tk })
    (hco : scope.isCoroutine = false) (hgen : scope.isGenerator = false) (hk : scope.kind = .function) :
    wpAny (Mo w) (Am dp un fr gd) (call (.ref f) args) Q E s := by
  refine wpAny_call (codeAny_call_function (fd := fnOf name qual params body scope dV kV doc pm an cdv ct) hd (X _ _ ho) rfl hco hgen rfl (codeRec_of X hcd) (hbind _ _ _ _ ?_))
  refine wpAny_newFunctionEnv_cells hk (kindsX hkind _) fun env' he s' x => ?_
  subst he
  refine ⟨hlim.keeps x.toInCall.keep, codeAny_func ?_⟩
  obtain ⟨h₁, tk, rfl, _⟩ := x.done
  have hk₁ := x.toInCall.keep
  obtain ⟨cells, NC, Y⟩ := Cl.news (h₀ := s.heap) (Nat.le_refl _) fun n c hm => ⟨x.cell n c (lookup_of_mem_nodup (cellsFrom_names scope.names 0 (s.heap.objs.size + 1) [] [] rfl ▸ hnd) hm), x.above n c hm⟩
  refine wpAny_mono (h s.heap.objs.size h₁ tk cells ⟨x.toInCall.ns, hk₁, Nat.le_refl _⟩ NC Y (fun b o e => Heap.lt_size e)) (fun fl s' hl => ?_) fun _ _ x => x.elim
  obtain ⟨h', tk', rfl, p⟩ := hl
  exact hQ _ h' tk' p
end
theorem name_free {M : Model} {A : Around} {E : Value → Shared → Prop} {s : Shared} {g : Heap} {L a : Addr} {m : Str → Option Value} {cn : Str} {cs : Scope} {ccd : Value} {cl : List (Str × Addr)} {x : Str} {pos : Pos} {v : Value} {Q : Value → Shared → Prop} {c : Addr} {o : Obj}
    (F : Fr g L s.heap m) (hc : cl.lookup x = some c) (ho : g.get? c = some o) (hd : o.data = .cell (some v)) (h : Q v s)
    (hk : cs.kind = .function := by rfl) (hx : (envX cn cs L a ccd cl).kindOf x = some .free := by rfl) (hb : (x == ("__debug__" : Str)) = false := by decide) (hn : (x == ("__classdict__" : Str)) = false := by decide) :
    wpAny M A (eval (.Name x pos) (envX cn cs L a ccd cl)) Q E s := wpAny_Name (wpAny_loadName_free hk hx hc ⟨o, F.keep _ _ ho, hd⟩ h hn) hb

abbrev lamScope : Scope := { kind := .function, names := [(Str.ofString "total", .local), (Str.ofString "word", .local), (Str.ofString "t", .free), (Str.ofString "_law_sent", .globalImplicit)], isGenerator := false, isCoroutine := false, more := [] }
abbrev lamParams (q1 q2 : Pos) : Arguments := { posonlyargs := [], args := [{ arg := Str.ofString "total", annotation := none, pos := q1 }, { arg := Str.ofString "word", annotation := none, pos := q2 }], vararg := none, kwonlyargs := [], kw_defaults := [], kwarg := none, defaults := [] }
abbrev lamBody (p1 p2 p3 p4 p5 p6 : Pos) : Expr := .BinOp (.Call (.Name (Str.ofString "_law_sent") p1) [.Name (Str.ofString "total") p2, .Name (Str.ofString "t") p3] [] p4) .BitXor (.Name (Str.ofString "word") p5) p6
def lamStep (t a b : Nat) : Nat := sent a t ^^^ b
theorem lam_folds {w : World} {h : Heap} (W : Wd w h) {dp un : Nat} (hd : dp + 28 < recursionLimit) (hu : un + 115 < cLine) {f c : Addr} {q1 q2 p1 p2 p3 p4 p5 p6 : Pos} {name qual : Str} {pm ct : Value} {c' : Addr} {o : Obj} {t : Nat} {tk0 : Tok}
    (hf : h.get? f = some (kla_obj name qual (lamParams q1 q2) (lamBody p1 p2 p3 p4 p5 p6) lamScope [(Str.ofString "t", c)] pm c' ct)) (hcd : h.CodeRec (.ref c') qual) (hc : h.get? c = some o) (ho : o.data = .cell (some (.int (t : Int) tk0))) (ht : t ≤ 3) :
    Folds w h f dp un (lamStep t) := by
  intro a b t1 t2 fr gd s Q E hk hQ
  replace W := W.keeps hk
  obtain ⟨X, ⟨pT, loose, mean, mg, mb, T⟩, CH⟩ := id W
  refine enterE (binds := [(Str.ofString "total", .int (a : Int) t1), (Str.ofString "word", .int (b : Int) t2)]) (fun v _ => ∃ t', v = .int ((lamStep t a b : Nat) : Int) t') T.nolimit (by omega) (hk _ _ hf) rfl (hcd.keeps hk) (by exact BindsTo.of_eq rfl) (by exact locs rfl) ?_ ?_ (by decide) (by rfl) (by rfl) (by rfl)
  rotate_left
  · intro v h' tk k e; obtain ⟨t', rfl⟩ := e; exact hQ t' h' tk k
  intro L h₁ tk F
  have N0 : News s.heap L h₁ [] := News.nil
  walk1
  walk1
  walk1
  walk1
  walk1
  walk1
  walk1
  refine name_free F rfl (hk _ _ hc) ho ?_
  walk_at "gs"
  refine sent_c (W.keeps F.keep) (by omega) (by omega) (by omega) (by omega) (by omega) ?_
  intro t3 h3 tk3 hk3
  replace F := F.keeps hk3
  replace N0 := N0.grown hk3
  dsimp only
  walk_at "gs"
  refine RE.ret F ⟨_, vi ?_⟩
  simp only [Int.toNat_natCast]
  rw [bx]; rfl

theorem triples_append : ∀ {l r : List Value}, TriplesOk l → TriplesOk r → TriplesOk (l ++ r)
  | [], _, _, h => h
  | .int _ _ :: .int _ _ :: _ :: rest, _, h1, h2 => triples_append (l := rest) h1 h2
theorem among_append {pos : Pos} : ∀ {l r : List Value}, TriplesOk l → codeAmong pos (l ++ r) = (codeAmong pos l).or (codeAmong pos r)
  | [], _, _ => rfl
  | .int a t :: .int b u :: c :: rest, r, h => by
    have ih := among_append (pos := pos) (l := rest) (r := r) h
    show (if (a == (pos.line : Int) && b == (pos.col : Int)) = true then some c else codeAmong pos (rest ++ r)) = (if (a == (pos.line : Int) && b == (pos.col : Int)) = true then some c else codeAmong pos rest).or _
    by_cases q : (a == (pos.line : Int) && b == (pos.col : Int)) = true
    · rw [if_pos q, if_pos q]; rfl
    · rw [if_neg q, if_neg q, ih]
abbrev lamQual : Str := Str.ofString "_law_found" ++ Str.ofString ".<locals>." ++ Str.ofString "<lambda>"
abbrev lamPoses : List Pos := [⟨30, 22, 30, 68⟩, ⟨31, 18, 31, 64⟩]
/-- the codes of the two lambdas, as far as they are made -/
def TabAt (h : Heap) (ps : Array Value) : Prop := TriplesOk ps.toList ∧ ∀ pos ∈ lamPoses, codeAmong pos ps.toList = none ∨ ∃ c', c' ≠ 39 ∧ codeAmong pos ps.toList = some (.ref c') ∧ h.CodeRec (.ref c') lamQual
def Tab (h : Heap) : Prop := ∃ ps, h.get? 39 = some (tabObj ps) ∧ TabAt h ps
abbrev Kx (h h' : Heap) : Prop := ∀ b o, b ≠ 39 → h.get? b = some o → h'.get? b = some o
abbrev gh (h : Heap) : Heap := hideAll h [39]
theorem TabAt.keeps {h h' : Heap} {ps : Array Value} (x : TabAt h ps) (k : Kp h h') : TabAt h' ps :=
  ⟨x.1, fun pos hp => (x.2 pos hp).imp id fun ⟨c', a, b, c⟩ => ⟨c', a, b, c.keeps k⟩⟩
theorem gh_get {h : Heap} {b : Addr} {o : Obj} (e : h.get? b = some o) (hb : b ≠ 39) : (gh h).get? b = some o := hideAll_get _ e (by simpa using hb)
theorem TabAt.gh {h : Heap} {ps : Array Value} (x : TabAt h ps) : TabAt (gh h) ps :=
  ⟨x.1, fun pos hp => (x.2 pos hp).imp id fun ⟨c', a, b, c₂, o, vs, t, e, ho, r⟩ => ⟨c', a, b, c₂, o, vs, t, e, gh_get ho (by cases e; exact a), r⟩⟩

theorem mk_lam {w : World} {M : Model} {A : Around} {E : Value → Shared → Prop} {s : Shared} {g : Heap} {L a : Addr} {m : Str → Option Value} {cn : Str} {cs : Scope} {cl : List (Str × Addr)} {params : Arguments} {body : Expr} {scope : Scope} {ps : Array Value} {pos : Pos} {fl : Nat} {clos : List (Str × Addr)} {oc : Obj} {Q : Value → Shared → Prop}
    (W : Wd w g) (F : Fr g L s.heap m) (N : News g L s.heap [(L + 1, oc), (39, tabObj ps)]) (hL : 39 < L) (ht : TabAt g ps) (hpos : pos ∈ lamPoses) (hcl : closureFor scope (envX cn cs L a (.ref 43) cl) = pure clos)
    (h : ∀ f c' ctv pm h' tk ps' extra, Fr g L h' m → News g L h' ((f, kla_obj (Str.ofString "<lambda>") lamQual params body scope clos pm c' ctv) :: (L + 1, oc) :: (39, tabObj ps') :: extra) →
      (∀ h'', Kp g h'' → News g L h'' extra → TabAt h'' ps' ∧ h''.CodeRec (.ref c') lamQual) → Q (.ref f) { s with heap := h', toks := tk }) :
    wpAny M A (makeFunction (Str.ofString "<lambda>") lamQual params (.expr body) scope (envX cn cs L a (.ref 43) cl) [] [] [] pos fl) Q E s := by
  obtain ⟨X, ⟨pT, loose, mean, mg, mb, T⟩, CH⟩ := id W
  rcases ht.2 pos hpos with hn | ⟨c', hc39, hs, hrec⟩
  · refine kla_nest F N T CH rfl (UpdF.tail (Nat.ne_of_gt (Nat.lt_succ_of_lt hL)) (UpdF.head fun p hp => nomatch hp)) ht.1 hn hcl ?_
    intro f c' oc' vs t ctv h' tk F' N' d1 d2 l1 l2
    have l39 : 39 < c' := l1 _ (.tail _ (.head _))
    refine h f c' ctv ((mg "__name__").getD .none) h' tk (ps ++ #[rawInt pos.line, rawInt pos.col, .ref c']) [(c', oc')] F' (kst_newsOf N' ?_) ?_
    · intro p hp
      rcases List.mem_cons.mp hp with e | hp
      · exact e ▸ .head _
      rcases List.mem_cons.mp hp with e | hp
      · exact e ▸ .tail _ (.tail _ (.head _))
      rcases List.mem_cons.mp hp with e | hp
      · exact e ▸ .tail _ (.tail _ (.tail _ (.head _)))
      · exact (List.mem_singleton.mp hp) ▸ .tail _ (.head _)
    intro h'' k'' N''
    have hrec : h''.CodeRec (.ref c') lamQual := ⟨c', oc', vs, t, rfl, (N'' _ (.head _)).1, d1, d2⟩
    refine ⟨⟨?_, fun q hq => ?_⟩, hrec⟩
    · rw [Array.toList_append]
      exact triples_append ht.1 trivial
    · rw [Array.toList_append, among_append ht.1]
      rcases ht.2 q hq with e | ⟨c₂, e1, e2, e3⟩
      · rw [e]
        show (if ((pos.line : Int) == (q.line : Int) && (pos.col : Int) == (q.col : Int)) = true then some (Value.ref c') else none) = none ∨ ∃ c₂, c₂ ≠ 39 ∧ (if ((pos.line : Int) == (q.line : Int) && (pos.col : Int) == (q.col : Int)) = true then some (Value.ref c') else none) = some (Value.ref c₂) ∧ _
        by_cases z : ((pos.line : Int) == (q.line : Int) && (pos.col : Int) == (q.col : Int)) = true
        · exact .inr ⟨c', Nat.ne_of_gt l39, if_pos z, hrec⟩
        · exact .inl (if_neg z)
      · rw [e2]
        exact .inr ⟨c₂, e1, rfl, e3.keeps k''⟩
  · refine kla_hit F N T CH rfl (.tail _ (.head _)) ht.1 hs hcl ?_
    intro f ctv h' tk F' N' l1
    exact h f c' ctv _ h' tk ps [] F' N' fun h'' k'' _ => ⟨ht.keeps k'', hrec.keeps k''⟩
section
variable {w : World} {dp un : Nat} {fr : Option (List Env)} {gd : Option (List Code)} {s : Shared} {Q E : Value → Shared → Prop}
theorem found_c (W : Wd w (gh s.heap)) (hd : dp + 35 < recursionLimit) (hu : un + 125 < cLine) {l : Addr} {vs : List Value} {c : Nat} {R : List Nat} {t : Nat} {tt : Tok} (hT : Tab s.heap) (hl : s.heap.get? l = some (listOf vs.toArray c)) (hR : IntsAre vs (castL R)) (hn : 1 ≤ R.length) (hn2 : R.length ≤ 8) (ht : t ≤ 3)
   (hQ : ∀ t' h' tk, Kx s.heap h' → Tab h' → Q (.int ((R.tail.foldl (lamStep t) (R.headD 0) : Nat) : Int) t') {s with heap := h', toks := tk}) : wpAny (Mo w) (Am dp un fr gd) (call (.ref 44) [.ref l, .int (t : Int) tt]) Q E s := by
  obtain ⟨X, ⟨pT, loose, mean, mg, mb, T⟩, CH⟩ := id (W.keeps fun b o e => of_hideAll _ e)
  refine enterC (K := Mine.hd.heap_39 w.params) (binds := [(Str.ofString "row", .ref l), (Str.ofString "t", .int (t : Int) tt)]) (fun v h' => (∃ t', v = .int ((R.tail.foldl (lamStep t) (R.headD 0) : Nat) : Int) t') ∧ Kx s.heap h' ∧ Tab h') X T.nolimit (by omega) (by k_is) (by k_is) (by exact BindsTo.of_eq rfl) (by exact rfl) (by decide) ?_ ?_ (by rfl) (by rfl) (by rfl)
  rotate_left
  · intro v h' tk e; obtain ⟨⟨t', rfl⟩, k, e2⟩ := e; exact hQ t' h' tk k e2
  intro L h₁ tk cells F N Y hlt
  obtain ⟨oc, rfl, hoc⟩ := CellsAre.one Y
  obtain ⟨ps, hps, hta⟩ := hT
  have hoc' : oc.data = .cell (some (.int (t : Int) tt)) := hoc
  have h39 : (39 : Nat) < L := hlt _ _ hps
  have hl39 : l ≠ 39 := fun e => by rw [e, hps] at hl; cases hl
  have F1 : Fr (gh s.heap) L h₁ (fun y => if y = Str.ofString "row" then some (.ref l) else none) := ⟨F.ns, fun b o e => F.keep b o (of_hideAll _ e), Nat.le_trans (Nat.le_of_eq (hideAll_size _ _)) F.above⟩
  have N1 : News (gh s.heap) L h₁ [(L + 1, oc), (39, tabObj ps)] := fun p hp => by
    simp only [List.mem_cons, List.not_mem_nil, or_false] at hp
    rcases hp with rfl | rfl
    · have q := N _ (.head _)
      refine ⟨q.1, q.2.1, ?_⟩
      cases e : (gh s.heap).get? (L + 1) with
      | none => rfl
      | some o => have := of_hideAll _ e; rw [q.2.2] at this; cases this
    · exact ⟨F.keep _ _ hps, Nat.ne_of_lt h39, hideAll_none _ (.head _)⟩
  have hlg : (gh s.heap).get? l = some (listOf vs.toArray c) := hideAll_get _ hl (by simpa using hl39)
  clear F N Y hoc
  obtain ⟨X, ⟨pT, loose, mean, mg, mb, T⟩, CH⟩ := id W
  refine wpAny_execs_cons (wpAny_If ?_)
  walk1
  refine nameX_C N1 rfl (.head _) hoc' ?_
  walk1
  walk1
  walk1
  walk1
  · walk_at "gs"
    refine kla_eval rfl ?_
    refine mk_lam W F1 N1 h39 hta.gh (.head _) rfl ?_
    intro f c' ctv pm h2 tk2 ps2 ex F2 N2 hex
    clear F1 N1
    obtain ⟨ht2, hr2⟩ := hex h2 F2.keep fun p hp => N2 p (.tail _ (.tail _ (.tail _ hp)))
    dsimp only
    walk_at "gs"
    refine reduce_c2 (W.keeps F2.keep) (by omega) (by omega) (F2.keep _ _ hlg) hR hn hn2 (N2 _ (.head _)).1 rfl (lam_folds (W.keeps F2.keep) (by omega) (by omega) (N2 _ (.head _)).1 hr2 (N2 _ (.tail _ (.head _))).1 hoc' ht) ?_
    intro t3 h3 tk3 hk3
    refine RP.ret ⟨⟨t3, rfl⟩, fun b o hb e => hk3 _ _ (F2.keep _ _ (gh_get e hb)), ps2, hk3 _ _ (N2 _ (.tail _ (.tail _ (.head _)))).1, ht2.keeps hk3⟩
  · walk_at "gs"
    refine kla_eval rfl ?_
    refine mk_lam W F1 N1 h39 hta.gh (.tail _ (.head _)) rfl ?_
    intro f c' ctv pm h2 tk2 ps2 ex F2 N2 hex
    clear F1 N1
    dsimp only
    walk_at "gs"
    have hls : (gh s.heap).IsList l vs.toArray := ⟨_, hlg, rfl, c, rfl⟩
    have hlen : vs.length = R.length := by rw [hR.length, castL_length]
    refine kmk_slice_ints F2 N2 (F2.lst hls) (IsPart.int _ _) IsPart.none hR (kmk_from hR (by decide)) rfl ?_ (by with_unfolding_all rfl) (by intro _; with_unfolding_all rfl) (by rw [List.size_toArray, hlen, sizeLine_eq]; omega)
    intro l4 v4 h4 F4 N4 lt4 hi4 _ _
    clear F2
    obtain ⟨ht2, hr2⟩ := hex h4 F4.keep fun p hp => N4 p (.tail _ (.tail _ (.tail _ (.tail _ hp))))
    dsimp only
    walk_at "gs"
    have h1 : 0 < (castL R).length := by rw [castL_length]; omega
    refine sub_i (F4.keep _ _ hlg) hR (i := 0) rfl h1 (by omega) ?_
    intro t5
    rw [castL_getD]
    dsimp only
    walk_at "gs"
    have hi5 : IntsAre v4 (castL (R.drop 1)) := by
      have e : castL (R.drop 1) = (castL R).drop (Int.toNat 1) := by simp [castL, List.map_drop]
      rw [e]; exact hi4
    refine reduce_c3 (W.keeps F4.keep) (by omega) (by omega) (N4 _ (.head _)).1 hi5 (by rw [List.length_drop]; omega) (N4 _ (.tail _ (.head _))).1 rfl (lam_folds (W.keeps F4.keep) (by omega) (by omega) (N4 _ (.tail _ (.head _))).1 hr2 (N4 _ (.tail _ (.tail _ (.head _)))).1 hoc' ht) ?_
    intro t3 h3 tk3 hk3
    refine RP.ret ⟨⟨t3, vi ?_⟩, fun b o hb e => hk3 _ _ (F4.keep _ _ (gh_get e hb)), ps2, hk3 _ _ (N4 _ (.tail _ (.tail _ (.tail _ (.head _))))).1, ht2.keeps hk3⟩
    cases R with
    | nil => exact absurd hn (by decide)
    | cons a r => rfl
end
section
open PyProof.Rows.LCg
variable {prog : Program} {w : World} {A : Around} {h₀ : Heap} {L : Addr} {m : Str → Option Value} {env : Env} {elt : Expr} {x : Str} {scope : Scope} {cl : List (Str × Addr)} {s : Shared} {S : List (Addr × Obj) → Prop} {P : Nat → Value → Prop} {Fin : List Value → List (Addr × Obj) → Prop}
theorem compRest_of {n : Nat} (Inv : Nat → List Value → List (Addr × Obj) → Prop)
    (step : ∀ i ys news v I oI C oC D m₂ h tk (E' : Value → Shared → Prop), i < n → Inv i ys news → P i v → NsObj oC m₂ → m₂ x = some v → Fr h₀ L h m → News h₀ L h ((I, oI) :: (C, oC) :: (D, lst ys) :: news) → Off3 I C D news → ((@Ne Nat I C) ∧ (@Ne Nat I D) ∧ (@Ne Nat C D)) →
      wpAny (model prog w) A (eval elt (compEnvC scope cl C env)) (CompEnd h₀ L m { s with heap := h, toks := tk } I oI C oC D (lst ys) S (fun y news' => Inv (i + 1) (ys ++ [y]) news')) E' { s with heap := h, toks := tk })
    (fin : ∀ ys news, Inv n ys news → Fin ys news) : ∀ k i ys news, i + k = n → Inv i ys news → CompRest prog w A h₀ L m env elt x scope cl s S P Fin k i ys news := by
  intro k
  induction k with
  | zero => intro i ys news e hI; exact fin ys news (by have : i = n := by omega
                                                        exact this ▸ hI)
  | succ k ih =>
    intro i ys news e hI v I oI C oC D m₂ h tk E' hP hns hm F N off hne
    refine wpAny_mono (step i ys news v I oI C oC D m₂ h tk E' (by omega) hI hP hns hm F N off hne) (fun y s' q => ?_) fun _ _ z => z
    obtain ⟨h', tk', news', e1, F', N', o', S', r⟩ := q
    exact ⟨h', tk', news', e1, F', N', o', S', ih (i + 1) _ _ (by omega) r⟩
end
section
open PyProof.Rows.LCg PyProof.Rows.LCt
variable {prog : Program} {w : World} {A : Around} {h₀ : Heap} {L : Addr} {m : Str → Option Value} {env : Env} {ct elt : Expr} {x : Str} {scope : Scope} {cl : List (Str × Addr)} {s : Shared} {S : List (Addr × Obj) → Prop} {P : Nat → Value → Prop} {Fin : List Value → List (Addr × Obj) → Prop}
theorem compRestT_of {n : Nat} (Inv : Nat → List Value → List (Addr × Obj) → Prop)
    (step : ∀ i ys news v I oI C oC D m₂ h tk (E' : Value → Shared → Prop), i < n → Inv i ys news → P i v → NsObj oC m₂ → m₂ x = some v → Fr h₀ L h m → News h₀ L h ((I, oI) :: (C, oC) :: (D, lst ys) :: news) → Off3 I C D news → ((@Ne Nat I C) ∧ (@Ne Nat I D) ∧ (@Ne Nat C D)) →
      wpAny (model prog w) A (isTrue ct (compEnvC scope cl C env) (eval ct (compEnvC scope cl C env))) (fun ok s' => if ok = true then
        wpAny (model prog w) A (eval elt (compEnvC scope cl C env)) (CompEnd h₀ L m { s with heap := h, toks := tk } I oI C oC D (lst ys) S (fun y news' => Inv (i + 1) (ys ++ [y]) news')) E' s'
        else CompEnd h₀ L m { s with heap := h, toks := tk } I oI C oC D (lst ys) S (fun _ news' => Inv (i + 1) ys news') Value.none s') E' { s with heap := h, toks := tk })
    (fin : ∀ ys news, Inv n ys news → Fin ys news) : ∀ k i ys news, i + k = n → Inv i ys news → CompRestT prog w A h₀ L m env ct elt x scope cl s S P Fin k i ys news := by
  intro k
  induction k with
  | zero => intro i ys news e hI; exact fin ys news (by have : i = n := by omega
                                                        exact this ▸ hI)
  | succ k ih =>
    intro i ys news e hI v I oI C oC D m₂ h tk E' hP hns hm F N off hne
    refine wpAny_mono (step i ys news v I oI C oC D m₂ h tk E' (by omega) hI hP hns hm F N off hne) (fun ok s' q => ?_) fun _ _ z => z
    cases ok with
    | true =>
      simp only [if_true] at q ⊢
      refine wpAny_mono q (fun y s' q => ?_) fun _ _ z => z
      obtain ⟨h', tk', news', e1, F', N', o', S', r⟩ := q
      exact ⟨h', tk', news', e1, F', N', o', S', ih (i + 1) _ _ (by omega) r⟩
    | false =>
      simp only [Bool.false_eq_true, if_false] at q ⊢
      obtain ⟨h', tk', news', e1, F', N', o', S', r⟩ := q
      exact ⟨h', tk', news', e1, F', N', o', S', ih (i + 1) _ _ (by omega) r⟩
end
theorem nm_loc {M : Model} {A : Around} {E : Value → Shared → Prop} {s : Shared} {env : Env} {m : Str → Option Value} {x : Str} {pos : Pos} {v : Value} {Q : Value → Shared → Prop} (hn : s.heap.Ns env.locals m) (hv : m x = some v) (h : Q v s)
    (hk : env.scope.kind = .function := by rfl) (hl : env.kindOf x = some .local := by rfl) (hd : (x == ("__debug__" : Str)) = false := by decide) :
    wpAny M A (eval (.Name x pos) env) Q E s := wpAny_Name (wpAny_loadName_local hk hl hn hv h) hd
theorem nm_cell {M : Model} {A : Around} {E : Value → Shared → Prop} {s : Shared} {env : Env} {x : Str} {pos : Pos} {v : Value} {c : Addr} {o : Obj} {Q : Value → Shared → Prop} (hc : env.cells.lookup x = some c) (ho : s.heap.get? c = some o) (hd' : o.data = .cell (some v)) (h : Q v s)
    (hk : env.scope.kind = .function := by rfl) (hl : env.kindOf x = some .cell := by rfl) (hd : (x == ("__debug__" : Str)) = false := by decide) :
    wpAny M A (eval (.Name x pos) env) Q E s := wpAny_Name (wpAny_loadName_cell hk hl hc ⟨o, ho, hd'⟩ h) hd

theorem eq_ints' {w : World} {A : Around} {s : Shared} {E : Value → Shared → Prop} {a b : Addr} {xs ys : List Value} {ns ms : List Int} {r : Bool} {Q : Value → Shared → Prop} (ha : s.heap.IsList a xs.toArray) (hb : s.heap.IsList b ys.toArray) (hi : IntsAre xs ns) (hj : IntsAre ys ms) (hu : A.units + 64 < cLine) (e : decide (ns = ms) = r) (h : Q (.bool r) s) :
    wpAny (Mo w) A (compareOp .Eq (.ref a) (.ref b)) Q E s := ke_eq_ints ha hb hi hj hu (e ▸ h)
theorem readsAll_snoc {h : Heap} {v : Value} {d : PyData} {bs : List Addr} (r : Reads h v d bs) : ∀ {vs : List Value} {ds : List PyData} {as : List Addr}, ReadsAll h vs ds as → ∃ cs, ReadsAll h (vs ++ [v]) (ds ++ [d]) cs
  | _, _, _, .nil => ⟨_, ReadsAll.cons r .nil⟩
  | _, _, _, .cons q qs => let ⟨_, z⟩ := readsAll_snoc r qs; ⟨_, ReadsAll.cons q z⟩
theorem readsAll_ints {h : Heap} {vs : List Value} {ns : List Int} (x : IntsAre vs ns) : ∃ as, ReadsAll h vs (ns.map .int) as := by
  induction x with
  | nil => exact ⟨_, .nil⟩
  | cons n t _ ih => obtain ⟨as, r⟩ := ih; exact ⟨_, .cons (.int n t) r⟩
theorem via_snoc {g : Heap} {objs objs' : List (Addr × Obj)} {vs : List Value} {ds : List PyData} {v : Value} {d : PyData} (r : ReadsViaAll g objs vs ds) (hs : ∀ p ∈ objs, p ∈ objs') (q : ReadsVia g objs' v d) : ReadsViaAll g objs' (vs ++ [v]) (ds ++ [d]) := fun h hk hn => by
  obtain ⟨as, z⟩ := r h hk fun p hp => hn p (hs p hp)
  obtain ⟨bs, y⟩ := q h hk hn
  exact readsAll_snoc y z
/-- P i j: the j-th power's multiple of the i-th gap -/
abbrev Pw (G : List Nat) (i j : Nat) : Nat := iter powStep j (G.getD i 0)
def okPair (G : List Nat) (n one other : Nat) : Bool :=
  decide ([((Pw G 1 (n - 1 - one) ^^^ Pw G 1 (n - 1 - other) ^^^ Pw G 0 (n - 1 - one + (n - 1 - other)) : Nat) : Int), ((Pw G 2 (n - 1 - one) ^^^ Pw G 2 (n - 1 - other) ^^^ Pw G 1 (n - 1 - one + (n - 1 - other)) : Nat) : Int)] = castL (G.drop 2))
/-- how many turns the division takes -/
def ovN (y : Nat) : Nat := ((List.range 300).find? fun j => (ovAt 0 y j).low == 1).getD 300
def overF (x y : Nat) : Nat := if x = 0 then 0 else (ovAt x y (ovN y)).mine
def chgOf (G : List Nat) (n one other : Nat) : Nat := overF (G.getD 1 0 ^^^ Pw G 0 (n - 1 - one)) (iter powStep (n - 1 - one) 1 ^^^ iter powStep (n - 1 - other) 1)
def mendRow (C G : List Nat) (one other : Nat) : List Nat :=
  let c := chgOf G C.length one other
  let r := C.set one (C.getD one 0 ^^^ mirror (G.getD 0 0 ^^^ c))
  r.set other (r.getD other 0 ^^^ mirror c)
def ansD (one other : Nat) (R : List Nat) : PyData := .tuple [.int one, .int other, .list ((castL R).map .int)]
theorem via_ans {g : Heap} {objs : List (Addr × Obj)} {lt lw : Addr} {one other : Nat} {t1 t2 : Tok} {vs : List Value} {n c : Nat} {R : List Nat} (h1 : (lt, ({ cls := .type "tuple", data := .seq #[.int (one : Int) t1, .int (other : Int) t2, .ref lw] n } : Obj)) ∈ objs) (h2 : (lw, listOf vs.toArray c) ∈ objs) (hi : IntsAre vs (castL R)) :
    ReadsVia g objs (.ref lt) (ansD one other R) := fun h _ hn => by
  obtain ⟨as, r⟩ := readsAll_ints (h := h) hi
  refine ⟨_, reads_tuple_at (hn _ h1) rfl rfl (ReadsAll.cons (.int _ _) (ReadsAll.cons (.int _ _) (ReadsAll.cons (reads_list_at (hn _ h2) rfl rfl (by simpa using r)) .nil)))⟩
def innerD (C G : List Nat) (one : Nat) : Nat → List PyData
  | 0 => []
  | j + 1 => innerD C G one j ++ (if okPair G C.length one (one + 1 + j) then [ansD one (one + 1 + j) (mendRow C G one (one + 1 + j))] else [])
def outerD (C G : List Nat) : Nat → List PyData
  | 0 => []
  | i + 1 => outerD C G i ++ innerD C G i (C.length - 1 - i)
section
variable {w : World} {dp un : Nat} {fr : Option (List Env)} {gd : Option (List Code)} {s : Shared} {Q E : Value → Shared → Prop}
theorem mended_c (W : Wd w s.heap) (hd : dp + 35 < recursionLimit) (hu : un + 200 < cLine) {l : Addr} {vs : List Value} {c : Nat} {C : List Nat} (hl : s.heap.get? l = some (listOf vs.toArray c)) (hC : IntsAre vs (castL C)) (hn : 1 ≤ C.length) (hn2 : C.length ≤ 8)
   {lg : Addr} {gs : List Value} {cg : Nat} {G : List Nat} (hlg : s.heap.get? lg = some (listOf gs.toArray cg)) (hG : IntsAre gs (castL G)) (hG4 : G.length = 4)
   (hb1 : ∀ j, iter powStep j 1 < 2 ^ 32) (hbG : ∀ i j, iter powStep j (G.getD i 0) < 2 ^ 32)
   (hov : ∀ x k m, m < k → k < 8 → (ovAt x (iter powStep k 1 ^^^ iter powStep m 1) (ovN (iter powStep k 1 ^^^ iter powStep m 1))).low = 1 ∧ ∀ j < ovN (iter powStep k 1 ^^^ iter powStep m 1), (ovAt x (iter powStep k 1 ^^^ iter powStep m 1) j).low ≠ 1)
   (hQ : ∀ l' h' tk as, Kp s.heap h' → Reads h' (.ref l') (.list (outerD C G C.length)) as → Q (.ref l') {s with heap := h', toks := tk}) : wpAny (Mo w) (Am dp un fr gd) (call (.ref 84) [.ref l, .ref lg]) Q E s := by
  obtain ⟨X, ⟨pT, loose, mean, mg, mb, T⟩, CH⟩ := id W
  refine enterC (K := Mine.hd.heap_39 w.params) (binds := [(Str.ofString "changed", .ref l), (Str.ofString "gaps", .ref lg)]) (fun v h' => ∃ l' as, v = .ref l' ∧ Kp s.heap h' ∧ Reads h' (.ref l') (.list (outerD C G C.length)) as) X T.nolimit (by omega) (by k_is) (by k_is) (by exact BindsTo.of_eq rfl) (by exact rfl) (by decide) ?_ ?_ (by rfl) (by rfl) (by rfl)
  rotate_left
  · intro v h' tk e; obtain ⟨l', as, rfl, k, e2⟩ := e; exact hQ l' h' tk as k e2
  intro L h₁ tk cells F N Y hlt
  obtain ⟨oc, rfl, hoc⟩ := CellsAre.one Y
  replace F : Fr s.heap L h₁ (fun y => if y = Str.ofString "gaps" then some (.ref lg) else if y = Str.ofString "changed" then some (.ref l) else none) := F
  have hoc' : oc.data = .cell none := hoc
  clear Y hoc
  have hlen : vs.length = C.length := by rw [hC.length, castL_length]
  have hlenG : gs.length = 4 := by rw [hG.length, castL_length, hG4]
  have hls : s.heap.IsList l vs.toArray := ⟨_, hl, rfl, c, rfl⟩
  have hlsg : s.heap.IsList lg gs.toArray := ⟨_, hlg, rfl, cg, rfl⟩
  walk_at "gs"
  refine len_at (F.keep _ _ hl) hlen (by omega) ?_
  intro t1 tk1
  dsimp only
  walk_at "gs"
  rename Fr _ _ _ _ => F
  rename News _ _ _ _ => N
  rename_i oz hoz
  refine powers_c' (x := 1) (y := C.length) (W.keeps F.keep) (by omega) (by omega) rfl rfl hb1 hn (by omega) ?_
  intro lp vp cp h2 tk2 hk2 hf2 ho2 hi2
  obtain ⟨N2, hne2⟩ := News.add F N hk2 hf2 ho2
  replace F := F.keeps hk2
  clear N
  dsimp only
  walk_at "gs"
  walk1
  rename Fr _ _ _ _ => F
  rename News _ _ _ _ => N
  refine LCg.ListComp_U F rfl (by decide) rfl (by decide) rfl ?_ (by intro _; rfl)
  walk_at "gs"
  refine kmk_slice_ints F N (F.lst hlsg) IsPart.none (IsPart.int _ _) hG (kmk_upto hG (by decide)) rfl ?_ (by with_unfolding_all rfl) (by intro _; with_unfolding_all rfl) (by rw [List.size_toArray, hlenG, sizeLine_eq]; omega)
  intro l3 v3 h3 F3 N3 lt3 hi3 _ _
  clear F N
  have hl3 : v3.length = 3 := by rw [hi3.length]; simp [castL, hG4]
  refine LCg.CompSrc.ledger rfl F3 N3 (.head _) (by rw [List.size_toArray, hl3, sizeLine_eq]; omega) ?_
  intro g3
  refine compRest_of (fun i ys news => ∃ objs : List (Addr × List Value × Nat), objs.length = i ∧ ys = objs.map (fun q => Value.ref q.1) ∧ news = objs.map (fun q => (q.1, listOf q.2.1.toArray q.2.2)) ++ [(l3, listOf v3.toArray 0), (lp, listOf vp.toArray cp), (L + 1, oz)] ∧
    ∀ j q, objs[j]? = some q → IntsAre q.2.1 (pl (G.getD j 0) (2 * C.length))) ?_ ?_ _ 0 [] _ (Nat.zero_add _) ⟨[], rfl, rfl, rfl, by simp⟩
  · rintro i ys news v I oI C' oC D m₂ h tk E' hi ⟨objs, rfl, rfl, rfl, hob⟩ hP hns hm F4 N4 off hne
    have hi' : objs.length < 3 := by rw [List.size_toArray, hl3] at hi; exact hi
    obtain ⟨tv, hv⟩ := hi3.get objs.length ((G.getD objs.length 0 : Nat) : Int) (by
      rw [List.getElem?_take, if_pos (show objs.length < Int.toNat 3 from hi')]; exact castL_get (by omega))
    have hv2 : v = .int ((G.getD objs.length 0 : Nat) : Int) tv := by
      have q : v3[objs.length]? = some v := by simpa using hP
      rw [hv] at q; exact (Option.some.inj q).symm
    subst hv2
    have hcz : (L + 1, oz) ∈ (I, oI) :: (C', oC) :: (D, LCg.lst (objs.map fun q => Value.ref q.1)) :: (objs.map (fun q => (q.1, listOf q.2.1.toArray q.2.2)) ++ [(l3, listOf v3.toArray 0), (lp, listOf vp.toArray cp), (L + 1, oz)]) := by simp
    refine Call_ ?_ (by rfl)
    refine nameG_K F4 X (topRead_of T) (by k_is) ?_ rfl rfl rfl (by decide)
    refine callWith_K X (by k_is) ?_
    refine args_cons (nm_loc (hns.ns (N4 _ (.tail _ (.head _))).1) hm ?_) (by rfl)
    refine args_cons (wpAny_BinOp ?_) (by rfl)
    walk1
    refine nm_cell rfl (N4 _ hcz).1 hoz ?_
    walk1
    refine args_nil ⟨X.keeps F4.keep, ?_⟩
    refine powers_c' (x := G.getD objs.length 0) (y := 2 * C.length) (W.keeps F4.keep) (by omega) (by omega) rfl (by omega) (hbG _) (by omega) (by omega) ?_
    intro l5 v5 c5 h5 tk5 hk5 hf5 ho5 hi5
    obtain ⟨N5, hne5⟩ := News.add F4 N4 hk5 hf5 ho5
    refine LCg.CompEnd.intro (F4.keeps hk5) N5 ((objs ++ [(l5, v5, c5)]).map (fun q => (q.1, listOf q.2.1.toArray q.2.2)) ++ [(l3, listOf v3.toArray 0), (lp, listOf vp.toArray cp), (L + 1, oz)]) ?_ ?_ ?_ ⟨objs ++ [(l5, v5, c5)], by simp, by simp, rfl, ?_⟩
    · intro p hp
      simp only [List.map_append, List.map_cons, List.map_nil, List.mem_cons, List.mem_append, List.not_mem_nil, or_false] at hp ⊢
      rcases hp with h | h | h | (h | h) | h
      · exact .inr (.inl h)
      · exact .inr (.inr (.inl h))
      · exact .inr (.inr (.inr (.inl h)))
      · exact .inr (.inr (.inr (.inr (.inl h))))
      · exact .inl h
      · exact .inr (.inr (.inr (.inr (.inr h))))
    · refine LCg.Off3.of fun p hp => ?_
      simp only [List.map_append, List.map_cons, List.map_nil, List.append_assoc, List.mem_append] at hp
      rcases hp with h | h | h
      · exact off.mem p (List.mem_append_left _ h)
      · rw [List.mem_singleton.mp h]
        exact ⟨Ne.symm (hne5 _ (.head _)), Ne.symm (hne5 _ (.tail _ (.head _))), Ne.symm (hne5 _ (.tail _ (.tail _ (.head _))))⟩
      · exact off.mem p (List.mem_append_right _ h)
    · exact .inr ⟨listOf v3.toArray 0, List.mem_append_right _ (.head _), rfl, 0, rfl⟩
    · intro j q hq
      by_cases hj : j < objs.length
      · rw [List.getElem?_append_left hj] at hq
        exact hob j q hq
      · rw [List.getElem?_append_right (by omega)] at hq
        have ej : j - objs.length = 0 := by
          cases e : j - objs.length with
          | zero => rfl
          | succ k => rw [e] at hq; simp at hq
        rw [ej] at hq
        cases hq
        have : j = objs.length := by omega
        rw [this]; exact hi5
  · rintro ys news ⟨objs, ho, rfl, rfl, hob⟩
    rw [List.size_toArray, hl3] at ho
    obtain ⟨a, b, d, rfl⟩ : ∃ a b d, objs = [a, b, d] := by
      match objs, ho with
      | [a, b, d], _ => exact ⟨a, b, d, rfl⟩
    obtain ⟨l5, v5, c5⟩ := a
    obtain ⟨l6, v6, c6⟩ := b
    obtain ⟨l7, v7, c7⟩ := d
    have hi5 : IntsAre v5 (pl (G.getD 0 0) (2 * C.length)) := hob 0 _ rfl
    have hi6 : IntsAre v6 (pl (G.getD 1 0) (2 * C.length)) := hob 1 _ rfl
    have hi7 : IntsAre v7 (pl (G.getD 2 0) (2 * C.length)) := hob 2 _ rfl
    clear hob
    intro D h8 tk8 F8 N8 off8
    simp only [List.map_cons, List.map_nil, List.cons_append, List.nil_append] at N8
    replace N8 := kst_newsOf (l' := [(D, LCg.lst [Value.ref l5, Value.ref l6, Value.ref l7]), (l5, listOf v5.toArray c5), (l6, listOf v6.toArray c6), (l7, listOf v7.toArray c7), (lp, listOf vp.toArray cp), (L + 1, oz)]) N8 (by simp)
    clear F3 N3
    dsimp only
    walk_at "gs"
    rename Fr _ _ _ _ => F
    rename News _ _ _ _ => N
    rename_i la _ hla h9
    have hfix : ∀ p ∈ [(l5, listOf v5.toArray c5), (l6, listOf v6.toArray c6), (l7, listOf v7.toArray c7), (lp, listOf vp.toArray cp), (L + 1, oz)], p.1 ≠ la := by
      intro p hp
      simp only [List.mem_cons, List.not_mem_nil, or_false] at hp
      obtain ⟨q1, q2, q3, q4, q5, q6⟩ := hla
      rcases hp with rfl | rfl | rfl | rfl | rfl
      · exact Nat.ne_of_lt q2
      · exact Nat.ne_of_lt q3
      · exact Nat.ne_of_lt q4
      · exact Nat.ne_of_lt q5
      · exact Nat.ne_of_lt q6
    clear hla
    have hLa : (L + 1 : Addr) ≠ la := hfix (L + 1, oz) (by simp)
    replace hfix : ∀ p ∈ [(l5, listOf v5.toArray c5), (l6, listOf v6.toArray c6), (l7, listOf v7.toArray c7), (lp, listOf vp.toArray cp)], p.1 ≠ la := fun p hp => hfix p (by simp only [List.mem_cons, List.not_mem_nil, or_false] at hp ⊢; rcases hp with q | q | q | q <;> simp [q])
    generalize hfx : [(l5, listOf v5.toArray c5), (l6, listOf v6.toArray c6), (l7, listOf v7.toArray c7), (lp, listOf vp.toArray cp)] = fixed at hfix
    have hm5 : (l5, listOf v5.toArray c5) ∈ fixed := by rw [← hfx]; simp
    have hm6 : (l6, listOf v6.toArray c6) ∈ fixed := by rw [← hfx]; simp
    have hm7 : (l7, listOf v7.toArray c7) ∈ fixed := by rw [← hfx]; simp
    have hmp : (lp, listOf vp.toArray cp) ∈ fixed := by rw [← hfx]; simp
    replace N : News s.heap L h9 ((la, listOf #[] 0) :: (L + 1, oz) :: (fixed ++ [])) := by
      rw [← hfx]; exact kst_newsOf N (by simp)
    refine wpAny_For ?_ (by intro _; rfl)
    walk_at "gs"
    refine loop_range (n := ((C.length : Int) - 0).toNat) (fun i m led => m (Str.ofString "gaps") = some (.ref lg) ∧ m (Str.ofString "changed") = some (.ref l) ∧ m (Str.ofString "powers") = some (.ref lp) ∧ m (Str.ofString "first") = some (.ref l5) ∧ m (Str.ofString "second") = some (.ref l6) ∧ m (Str.ofString "third") = some (.ref l7) ∧ m (Str.ofString "answers") = some (.ref la) ∧
      ∃ as ca objs, led = (la, listOf as.toArray ca) :: (L + 1, oz) :: (fixed ++ objs) ∧ (∀ p ∈ objs, p.1 ≠ la) ∧ ReadsViaAll s.heap objs as (outerD C G i) ∧ as.length ≤ 8 * i) rfl (by assumption) (small_one (by omega) (by omega) (by omega) (by omega)) (rangeSize_nat _ _) (by assumption) (by assumption) ⟨rfl, rfl, rfl, rfl, rfl, rfl, rfl, [], 0, [], rfl, (fun _ h => nomatch h), ReadsViaAll.nil, Nat.zero_le _⟩ ?_ ?_ (by intro _ _; rfl)
    · rintro i t₁ m₁ led₁ h tk I o hi ⟨m1, m2, m3, m4, m5, m6, m7, as, ca, objs, rfl, hob, hrd, hal⟩ hIl F₁ N₁
      replace F₁ := Fr.seen F₁ m1
      replace F₁ := Fr.seen (x := Str.ofString "changed") (v := .ref l) F₁ m2
      replace F₁ := Fr.seen (x := Str.ofString "powers") (v := .ref lp) F₁ m3
      replace F₁ := Fr.seen (x := Str.ofString "first") (v := .ref l5) F₁ m4
      replace F₁ := Fr.seen (x := Str.ofString "second") (v := .ref l6) F₁ m5
      replace F₁ := Fr.seen (x := Str.ofString "third") (v := .ref l7) F₁ m6
      replace F₁ := Fr.seen (x := Str.ofString "answers") (v := .ref la) F₁ m7
      have hin : i < C.length := by omega
      have hlaI : la ≠ I := hIl _ (.head _)
      have hcI : (L + 1 : Addr) ≠ I := hIl _ (.tail _ (.head _))
      have hfI : ∀ p ∈ fixed ++ objs, p.1 ≠ I := fun p hp => hIl p (.tail _ (.tail _ hp))
      walk_at "gs"
      refine wpAny_For ?_ (by intro _; rfl)
      walk_at "gs"
      rename Fr _ _ _ _ => F
      rename News _ _ _ _ => N
      replace N := kst_newsOf (l' := (la, listOf as.toArray ca) :: (L + 1, oz) :: (I, o) :: (fixed ++ objs)) N (by
        intro p hp; simp only [List.mem_cons] at hp ⊢
        rcases hp with q | q | q | q
        · exact .inr (.inl q)
        · exact .inr (.inr (.inl q))
        · exact .inl q
        · exact .inr (.inr (.inr q)))
      refine loop_range (n := ((C.length : Int) - (0 + (i : Int) * 1 + 1)).toNat) (fun j m led => m (Str.ofString "gaps") = some (.ref lg) ∧ m (Str.ofString "changed") = some (.ref l) ∧ m (Str.ofString "powers") = some (.ref lp) ∧ m (Str.ofString "first") = some (.ref l5) ∧ m (Str.ofString "second") = some (.ref l6) ∧ m (Str.ofString "third") = some (.ref l7) ∧ m (Str.ofString "answers") = some (.ref la) ∧ (∃ t, m (Str.ofString "one") = some (.int (i : Int) t)) ∧
        ∃ as ca objs, led = (la, listOf as.toArray ca) :: (L + 1, oz) :: (I, o) :: (fixed ++ objs) ∧ (∀ p ∈ objs, p.1 ≠ la) ∧ (∀ p ∈ fixed ++ objs, p.1 ≠ I) ∧ ReadsViaAll s.heap objs as (outerD C G i ++ innerD C G i j) ∧ as.length ≤ 8 * i + j) rfl (by assumption) (small_one (by omega) (by omega) (by omega) (by omega)) (rangeSize_nat _ _) F N ⟨rfl, rfl, rfl, rfl, rfl, rfl, rfl, ⟨t₁, vint (by omega)⟩, as, ca, objs, rfl, hob, hfI, by simpa [innerD] using hrd, by omega⟩ ?_ ?_ (by intro _ _; rfl)
      · clear hrd hob hal F N m1 m2 m3 m4 m5 m6 m7 hfI hIl
        rintro j t₂ m₂ led₂ h₂ tk₂ I2 o2 hj ⟨m1, m2, m3, m4, m5, m6, m7, ⟨t3, m8⟩, as, ca, objs, rfl, hob, hfI, hrd, hal⟩ hIl2 F₁ N₁
        replace F₁ := Fr.seen F₁ m1
        replace F₁ := Fr.seen (x := Str.ofString "changed") (v := .ref l) F₁ m2
        replace F₁ := Fr.seen (x := Str.ofString "powers") (v := .ref lp) F₁ m3
        replace F₁ := Fr.seen (x := Str.ofString "first") (v := .ref l5) F₁ m4
        replace F₁ := Fr.seen (x := Str.ofString "second") (v := .ref l6) F₁ m5
        replace F₁ := Fr.seen (x := Str.ofString "third") (v := .ref l7) F₁ m6
        replace F₁ := Fr.seen (x := Str.ofString "answers") (v := .ref la) F₁ m7
        replace F₁ := Fr.seen (x := Str.ofString "one") (v := .int (i : Int) t3) F₁ m8
        have hjn : i + 1 + j < C.length := by omega
        have hK : C.length - 1 - i < 2 * C.length := by omega
        have hM : C.length - 1 - (i + 1 + j) < 2 * C.length := by omega
        have hKM : C.length - 1 - i + (C.length - 1 - (i + 1 + j)) < 2 * C.length := by omega
        walk_at "gs"
        rename Fr _ _ _ _ => F
        rename News _ _ _ _ => N
        refine sub_i (N (l6, listOf v6.toArray c6) (by simp [hm6])).1 hi6 (i := C.length - 1 - i) (by omega) (by rw [pl_length]; exact hK) (by omega) ?_
        intro t10; rw [pl_getD _ hK]
        walk_at "gs"
        refine sub_i (N (l6, listOf v6.toArray c6) (by simp [hm6])).1 hi6 (i := C.length - 1 - (i + 1 + j)) (by omega) (by rw [pl_length]; exact hM) (by omega) ?_
        intro t11; rw [pl_getD _ hM]
        walk_at "gs"
        refine sub_i (N (l5, listOf v5.toArray c5) (by simp [hm5])).1 hi5 (i := C.length - 1 - i + (C.length - 1 - (i + 1 + j))) (by omega) (by rw [pl_length]; exact hKM) (by omega) ?_
        intro t12; rw [pl_getD _ hKM]
        walk_at "gs"
        refine sub_i (N (l7, listOf v7.toArray c7) (by simp [hm7])).1 hi7 (i := C.length - 1 - i) (by omega) (by rw [pl_length]; exact hK) (by omega) ?_
        intro t13; rw [pl_getD _ hK]
        walk_at "gs"
        refine sub_i (N (l7, listOf v7.toArray c7) (by simp [hm7])).1 hi7 (i := C.length - 1 - (i + 1 + j)) (by omega) (by rw [pl_length]; exact hM) (by omega) ?_
        intro t14; rw [pl_getD _ hM]
        walk_at "gs"
        refine sub_i (N (l6, listOf v6.toArray c6) (by simp [hm6])).1 hi6 (i := C.length - 1 - i + (C.length - 1 - (i + 1 + j))) (by omega) (by rw [pl_length]; exact hKM) (by omega) ?_
        intro t15; rw [pl_getD _ hKM]
        walk_at "gs"
        rename Fr _ _ _ _ => F
        rename News _ _ _ _ => N
        refine kmk_slice_ints F N (F.lst hlsg) (IsPart.int _ _) IsPart.none hG (kmk_from hG (by decide)) rfl ?_ (by with_unfolding_all rfl) (by intro _; with_unfolding_all rfl) (by rw [List.size_toArray, hlenG, sizeLine_eq]; omega)
        intro l20 v20 h20 F20 N20 lt20 hi20 _ _
        clear F N
        refine eq_ints' (r := okPair G C.length i (i + 1 + j)) (N20.isList (.tail _ (.head _))) (N20.isList (.head _)) (.cons _ _ (.cons _ _ .nil)) hi20 (by show un + 3 + 64 < cLine; omega) ?_ ?_
        · rw [bx, bx, bx, bx]
          have e : castL (G.drop 2) = List.drop (Int.toNat 2) (castL G) := by simp [castL]
          rw [← e]; rfl
        generalize hok : okPair G C.length i (i + 1 + j) = b
        cases b with
        | false =>
          walk_at "gs"
          refine TE.mk' F20 (kst_newsOf (l' := (I2, o2) :: ((la, listOf as.toArray ca) :: (L + 1, oz) :: (I, o) :: (fixed ++ objs))) N20 (fun p hp => .tail _ (.tail _ hp))) hIl2 ⟨rfl, rfl, rfl, rfl, rfl, rfl, rfl, ⟨t3, rfl⟩, as, ca, objs, rfl, hob, hfI, ?_, by omega⟩
          rw [innerD, hok]
          simpa using hrd
        | true =>
          rename_i l19 _ _ _ _ _ _
          replace N20 := kst_newsOf (l' := (I2, o2) :: ((la, listOf as.toArray ca) :: (L + 1, oz) :: (I, o) :: (fixed ++ objs))) N20 (fun p hp => .tail _ (.tail _ hp))
          clear lt20
          have h4 : ∀ k, k < 4 → k < (castL G).length := fun k hk => by rw [castL_length, hG4]; exact hk
          have hKn : C.length - 1 - i < C.length := by omega
          have hMn : C.length - 1 - (i + 1 + j) < C.length := by omega
          walk_at "gs"
          refine sub_i (F20.keep _ _ hlg) hG (i := 1) rfl (h4 _ (by omega)) (by omega) ?_
          intro t21; rw [castL_getD]
          walk_at "gs"
          refine sub_i (N20 (l5, listOf v5.toArray c5) (by simp [hm5])).1 hi5 (i := C.length - 1 - i) (by omega) (by rw [pl_length]; exact hK) (by omega) ?_
          intro t22; rw [pl_getD _ hK]
          walk_at "gs"
          refine sub_i (N20 (lp, listOf vp.toArray cp) (by simp [hmp])).1 hi2 (i := C.length - 1 - i) (by omega) (by rw [pl_length]; exact hKn) (by omega) ?_
          intro t23; rw [pl_getD _ hKn]
          walk_at "gs"
          refine sub_i (N20 (lp, listOf vp.toArray cp) (by simp [hmp])).1 hi2 (i := C.length - 1 - (i + 1 + j)) (by omega) (by rw [pl_length]; exact hMn) (by omega) ?_
          intro t24; rw [pl_getD _ hMn]
          walk_at "gs"
          obtain ⟨ho1, ho2'⟩ := hov (G.getD 1 0 ^^^ Pw G 0 (C.length - 1 - i)) (C.length - 1 - i) (C.length - 1 - (i + 1 + j)) (by omega) (by omega)
          refine over_c' (W.keeps F20.keep) (by omega) (by omega) (bx _ _) (bx _ _) ho1 ho2' ?_
          intro t25 h25 tk25 hk25
          replace F20 := F20.keeps hk25
          replace N20 := N20.grown hk25
          generalize hcv : (if G.getD 1 0 ^^^ Pw G 0 (C.length - 1 - i) = 0 then 0 else _ : Nat) = cv
          replace hcv : chgOf G C.length i (i + 1 + j) = cv := hcv
          dsimp only
          walk_at "gs"
          rename Fr _ _ _ _ => F
          rename News _ _ _ _ => N
          rename_i lw cw _ l1w _
          obtain ⟨q1, q2, q3, q4, q5⟩ := l1w
          have hwn : ∀ p ∈ (I2, o2) :: ((la, listOf as.toArray ca) :: (L + 1, oz) :: (I, o) :: (fixed ++ objs)), p.1 ≠ lw := by
            intro p hp
            simp only [List.mem_cons] at hp
            rcases hp with q | q | q | q | q
            · rw [q]; exact Nat.ne_of_lt q1
            · rw [q]; exact Nat.ne_of_lt q2
            · rw [q]; exact Nat.ne_of_lt q3
            · rw [q]; exact Nat.ne_of_lt q4
            · exact Nat.ne_of_lt (kst_ltOf q5 p q)
          clear q1 q2 q3 q4 q5
          have hiC : i < (castL C).length := by rw [castL_length]; exact hin
          refine sub_i (N _ (.head _)).1 hC (i := i) rfl hiC (by omega) ?_
          intro t31; rw [castL_getD]
          walk_at "gs"
          refine sub_i (F.keep _ _ hlg) hG (i := 0) rfl (h4 _ (by omega)) (by omega) ?_
          intro t32; rw [castL_getD]
          walk_at "gs"
          refine mirrored_c' (W.keeps F.keep) (by omega) (by omega) (bx _ _) ?_
          intro t33 h33 tk33 hk33
          replace F := F.keeps hk33
          replace N := N.grown hk33
          dsimp only
          walk_at "gs"
          refine set_head F N hwn hC (i := i) rfl hiC (by omega) ?_
          intro h34 v34 F34 N34 hi34
          clear F N
          rw [bx, castL_set] at hi34
          generalize hC1 : C.set i (C.getD i 0 ^^^ mirror (G.getD 0 0 ^^^ cv)) = C1 at hi34
          have hC1l : C1.length = C.length := by rw [← hC1]; simp
          have hjC : i + 1 + j < (castL C1).length := by rw [castL_length, hC1l]; exact hjn
          dsimp only
          walk_at "gs"
          refine sub_i (N34 _ (.head _)).1 hi34 (i := i + 1 + j) (by omega) hjC (by omega) ?_
          intro t35; rw [castL_getD]
          walk_at "gs"
          refine mirrored_c' (W.keeps F34.keep) (by omega) (by omega) rfl ?_
          intro t36 h36 tk36 hk36
          replace F34 := F34.keeps hk36
          replace N34 := N34.grown hk36
          dsimp only
          walk_at "gs"
          refine set_head F34 N34 hwn hi34 (i := i + 1 + j) (by omega) hjC (by omega) ?_
          intro h37 v37 F37 N37 hi37
          clear F34 N34
          rw [bx, castL_set] at hi37
          have hrow : C1.set (i + 1 + j) (C1.getD (i + 1 + j) 0 ^^^ mirror cv) = mendRow C G i (i + 1 + j) := by
            rw [mendRow, hcv, ← hC1]
          rw [hrow] at hi37
          dsimp only
          walk_at "gs"
          rename Fr _ _ _ _ => F
          rename News _ _ _ _ => N
          rename_i lt _ l1t
          obtain ⟨q1, q2, q3, q4, q5, q6⟩ := l1t
          have eo : (0 + (i : Int) * 1 + 1 + (j : Int) * 1) = ((i + 1 + j : Nat) : Int) := by omega
          rw [eo] at N
          have N40 := kst_newsOf (l' := (la, listOf as.toArray ca) :: ((I2, o2) :: (L + 1, oz) :: (I, o) :: (fixed ++ ((lt, { cls := .type "tuple", data := .seq #[.int (i : Int) t3, .int ((i + 1 + j : Nat) : Int) t₂, .ref lw] }) :: (lw, listOf v37.toArray cw) :: objs)))) N (by
            intro p hp
            simp only [List.mem_cons, List.mem_append] at hp ⊢
            rcases hp with q | q | q | q | q | q | q | q
            · exact .inr (.inr (.inr (.inl q)))
            · exact .inr (.inr (.inl q))
            · exact .inr (.inr (.inr (.inr (.inl q))))
            · exact .inr (.inr (.inr (.inr (.inr (.inl q)))))
            · exact .inr (.inr (.inr (.inr (.inr (.inr (.inl q))))))
            · exact .inl q
            · exact .inr (.inl q)
            · exact .inr (.inr (.inr (.inr (.inr (.inr (.inr q)))))))
          refine append_K F N40 (Upd.head ?_) ?_ ?_
          · intro p hp
            simp only [List.mem_cons, List.mem_append] at hp
            rcases hp with q | q | q | q | q | q | q
            · rw [q]; exact Ne.symm (hIl2 _ (.head _))
            · rw [q]; exact hLa
            · rw [q]; exact Ne.symm hlaI
            · exact hfix p q
            · rw [q]; exact Ne.symm (Nat.ne_of_lt q3)
            · rw [q]; exact Ne.symm (hwn _ (.tail _ (.head _)))
            · exact hob p q
          rotate_left
          · rw [List.size_toArray, sizeLine_eq]; omega
          intro h41 F41 N41
          clear F N N40
          rw [List.push_toArray] at N41
          dsimp only
          walk_at "gs"
          refine TE.mk' F41 (kst_newsOf (l' := (I2, o2) :: ((la, listOf (as ++ [Value.ref lt]).toArray (ca + 1)) :: (L + 1, oz) :: (I, o) :: (fixed ++ ((lt, { cls := .type "tuple", data := .seq #[.int (i : Int) t3, .int ((i + 1 + j : Nat) : Int) t₂, .ref lw] }) :: (lw, listOf v37.toArray cw) :: objs)))) N41 ?_) ?_ ⟨rfl, rfl, rfl, rfl, rfl, rfl, rfl, ⟨t3, rfl⟩, as ++ [Value.ref lt], ca + 1, _, rfl, ?_, ?_, ?_, by rw [List.length_append, List.length_singleton]; omega⟩
          · intro p hp
            simp only [List.mem_cons] at hp ⊢
            rcases hp with q | q | q
            · exact .inr (.inl q)
            · exact .inl q
            · exact .inr (.inr q)
          · intro p hp
            simp only [List.mem_cons, List.mem_append] at hp
            rcases hp with q | q | q | q | q | q | q
            · rw [q]; exact hIl2 (la, listOf as.toArray ca) (.head _)
            · exact hIl2 p (q ▸ .tail _ (.head _))
            · exact hIl2 p (q ▸ .tail _ (.tail _ (.head _)))
            · exact hIl2 p (.tail _ (.tail _ (.tail _ (List.mem_append_left _ q))))
            · rw [q]; exact Ne.symm (Nat.ne_of_lt q2)
            · rw [q]; exact Ne.symm (hwn _ (.head _))
            · exact hIl2 p (.tail _ (.tail _ (.tail _ (List.mem_append_right _ q))))
          · intro p hp
            simp only [List.mem_cons] at hp
            rcases hp with q | q | q
            · rw [q]; exact Ne.symm (Nat.ne_of_lt q3)
            · rw [q]; exact Ne.symm (hwn _ (.tail _ (.head _)))
            · exact hob p q
          · intro p hp
            simp only [List.mem_cons, List.mem_append] at hp
            rcases hp with q | q | q | q
            · exact hfI p (List.mem_append_left _ q)
            · rw [q]; exact Ne.symm (Nat.ne_of_lt q5)
            · rw [q]; exact Ne.symm (hwn _ (.tail _ (.tail _ (.tail _ (.head _)))))
            · exact hfI p (List.mem_append_right _ q)
          · rw [innerD, hok, if_pos rfl, ← List.append_assoc]
            exact via_snoc hrd (fun p hp => .tail _ (.tail _ hp)) (via_ans (.head _) (.tail _ (.head _)) hi37)
      · rintro h₂ tk₂ m' led' F₁ N₁ ⟨m1, m2, m3, m4, m5, m6, m7, ⟨t3, m8⟩, as, ca, objs, rfl, hob, hfI, hrd, hal⟩
        have e1 : ((C.length : Int) - (0 + (i : Int) * 1 + 1)).toNat = C.length - 1 - i := by omega
        rw [e1] at hrd hal
        dsimp only
        walk_at "gs"
        refine TE.mk' F₁ (kst_newsOf (l' := (I, o) :: ((la, listOf as.toArray ca) :: (L + 1, oz) :: (fixed ++ objs))) N₁ ?_) ?_ ⟨m1, m2, m3, m4, m5, m6, m7, as, ca, objs, rfl, hob, hrd, by omega⟩
        · intro p hp; simp only [List.mem_cons] at hp ⊢
          rcases hp with q | q | q | q
          · exact .inr (.inr (.inl q))
          · exact .inl q
          · exact .inr (.inl q)
          · exact .inr (.inr (.inr q))
        · intro p hp
          simp only [List.mem_cons] at hp
          rcases hp with q | q | q
          · rw [q]; exact hlaI
          · rw [q]; exact hcI
          · exact hfI p q
    · rintro h tk m' led' F₁ N₁ ⟨m1, m2, m3, m4, m5, m6, m7, as, ca, objs, rfl, hob, hrd, hal⟩
      replace F₁ := Fr.seen F₁ m7
      rw [Int.sub_zero] at hrd
      dsimp only
      walk_at "gs"
      obtain ⟨bs, hbs⟩ := hrd h F₁.keep fun p hp => (N₁ p (.tail _ (.tail _ (List.mem_append_right _ hp)))).1
      exact RP.ret ⟨la, _, rfl, F₁.keep, reads_list_at (N₁ _ (.head _)).1 rfl rfl (by simpa using hbs)⟩
end
/-- an object that a comprehension's own machinery never is: a code object, a table of them -/
def CodeLike (o : Obj) : Prop := (o.cls = .none ∧ ∃ vs, o.data = .fields vs) ∨ ∃ vs q t, o.data = .fields vs ∧ vs[1]? = some (.str q t)
abbrev Kc (h h' : Heap) : Prop := ∀ b o, CodeLike o → h.get? b = some o → h'.get? b = some o
section
open PyProof.Rows.LCg PyProof.Rows.LCp
variable {w : World} {A : Around} {E : Value → Shared → Prop} {g : Heap} {L : Addr} {m : Str → Option Value} {env : Env}
theorem comp_enum {elt iter : Expr} {xi xv : Str} {pi pv tp : Pos} {x1 : Nat} {scope : Scope} {cl : List (Str × Addr)} {pos : Pos} {s₂ : Shared} {e it l : Addr} {vs : List Value} {c : Nat} {news : List (Addr × Obj)} {RR : Value → Addr → Result → Shared → Prop}
    (Inv : Nat → List Value → List (Addr × Obj) → Prop) (Z : Heap → Prop) (hZ : ∀ h h', Kc h h' → Z h → Z h') (hz0 : Z s₂.heap) (hh : A.handled = none)
    (hcell : ∀ y ∈ scope.names, y.2 ≠ .cell) (hkind : scope.kind = .function) (hxi : scope.names.lookup xi = some .local) (hxv : scope.names.lookup xv = some .local) (hxx : xi ≠ xv)
    (hl : ∀ i ys nw, Inv i ys nw → (l, listOf vs.toArray c) ∈ nw) (he : IsEnum s₂.heap e it 0 .none) (hit : s₂.heap.IsListIter it l 0) (hei : e ≠ it)
    (F : Fr g L s₂.heap m) (N : News g L s₂.heap news) (heL : e ≠ L) (hiL : it ≠ L) (heg : g.get? e = none) (hig : g.get? it = none) (off : ∀ p ∈ news, p.1 ≠ e ∧ p.1 ≠ it) (h0 : Inv 0 [] news) (hsz : vs.length ≤ sizeLine)
    (step : ∀ i ys nw v tk0 C oC D oE oI m₂ h tk (E' : Value → Shared → Prop), vs[i]? = some v → Inv i ys nw → Z h → NsObj oC m₂ → m₂ xi = some (.int (i : Nat) tk0) → m₂ xv = some v → Fr g L h m → News g L h ((e, oE) :: (it, oI) :: (C, oC) :: (D, lst ys) :: nw) → (∀ p ∈ nw, p.1 ≠ e ∧ p.1 ≠ it ∧ p.1 ≠ C ∧ p.1 ≠ D) →
      wpAny (Mo w) A (eval elt (compEnvC scope cl C env)) (fun y s' => ∃ h' tk' nw', s' = { s₂ with heap := h', toks := tk' } ∧ Fr g L h' m ∧ News g L h' ((e, oE) :: (it, oI) :: (C, oC) :: (D, lst ys) :: nw') ∧ (∀ p ∈ nw', p.1 ≠ e ∧ p.1 ≠ it ∧ p.1 ≠ C ∧ p.1 ≠ D) ∧ Z h' ∧ Inv (i + 1) (ys ++ [y]) nw') E' { s₂ with heap := h, toks := tk })
    (fin : ∀ D C h tk m' ys nw', Fr g L h m → News g L h ((D, lst ys) :: nw') → (∀ p ∈ nw', p.1 ≠ D) → h.Ns C m' → g.get? C = none → C ≠ L → C ≠ D → (∀ p ∈ nw', p.1 ≠ C) → Inv vs.length ys nw' → RR (.ref D) C (.ok .next) { s₂ with heap := h, toks := tk }) :
    wpAny (Mo w) A (newList []) (fun acc s₃ => wpAny (Mo w) A (newFunctionEnv scope env.globals cl [] env.qual none .none (some env)) (fun cenv s₄ =>
      codeAny (Mo w) A (.compStart (.ListComp elt [⟨.Tuple [.Name xi pi, .Name xv pv] x1 tp, iter, [], 0⟩] scope pos) 0 (.ref e) acc { cenv with scope := relabel scope env }) (RR acc cenv.locals) s₄) E s₃) E s₂ := by
  refine wpAny_newObj_type (wpAny_newFunctionEnv hcell (by intro y hy; simp at hy) (fun h₁ hns₁ hsb₁ => ?_) hkind)
  dsimp only at hns₁ hsb₁ ⊢
  generalize hH2 : s₂.heap.push { cls := .type "list", dict := none, data := .seq ([] : List Value).toArray } = H2 at hns₁ hsb₁ ⊢
  have hC : H2.objs.size = s₂.heap.objs.size + 1 := by rw [← hH2, Heap.size_push]
  have hDC : s₂.heap.objs.size ≠ H2.objs.size := by rw [hC]; exact Nat.ne_of_lt (Nat.lt_succ_self _)
  have below : ∀ b, b < s₂.heap.objs.size → b ≠ H2.objs.size ∧ b ≠ s₂.heap.objs.size := fun b hb => ⟨by rw [hC]; exact Nat.ne_of_lt (Nat.lt_succ_of_lt hb), Nat.ne_of_lt hb⟩
  have old : ∀ b o, s₂.heap.get? b = some o → h₁.get? b = some o := fun b o e => hsb₁.extBut b o (below b (Heap.lt_size e)).1 (Heap.get?_push_of_some _ (hH2 ▸ Heap.get?_push_of_some _ e))
  have hacc : h₁.get? s₂.heap.objs.size = some (lst []) := hsb₁.extBut _ _ hDC (Heap.get?_push_of_some _ (hH2 ▸ Heap.get?_push_size _ rfl))
  have fresh₀ : ∀ a, s₂.heap.objs.size ≤ a → g.get? a = none := fun a ha => by
    cases q : g.get? a with
    | none => rfl
    | some o' => exact absurd (Heap.lt_size (F.keep a o' q)) (Nat.not_lt.mpr ha)
  have hD₀ : g.get? s₂.heap.objs.size = none := fresh₀ _ (Nat.le_refl _)
  have hC₀ : g.get? H2.objs.size = none := fresh₀ _ (by rw [hC]; exact Nat.le_succ _)
  have hLlt : L < s₂.heap.objs.size := F.ns.lt
  have hDL : s₂.heap.objs.size ≠ L := Ne.symm (below L hLlt).2
  have hCL : H2.objs.size ≠ L := Ne.symm (below L hLlt).1
  have helt : e < s₂.heap.objs.size := Heap.lt_size he
  obtain ⟨oi0, hoi0, _⟩ := id hit
  have hilt : it < s₂.heap.objs.size := Heap.lt_size hoi0
  have heC := (below e helt).1
  have heD := (below e helt).2
  have hiC := (below it hilt).1
  have hiD := (below it hilt).2
  generalize hCe : H2.objs.size = C at *
  generalize hDe : s₂.heap.objs.size = D at *
  have loop : ∀ s₃ : Shared, s₃ = { s₂ with heap := h₁, toks := s₂.toks + ([] : List (Str × Value)).length } →
      codeAny (Mo w) A (.compLoop (.ListComp elt [⟨.Tuple [.Name xi pi, .Name xv pv] x1 tp, iter, [], 0⟩] scope pos) 0 (.ref e) (.ref D) (compEnvC scope cl C env)) (RR (.ref D) C) s₃ := by
    rintro s₃ rfl
    refine codeAny_compLoop_pair
      (fun k s' => ∃ h' tk i ys m' nw old, s' = { s₂ with heap := h', toks := tk } ∧ i ≤ vs.length ∧ k = vs.length + 1 - i ∧ ys.length = i ∧ IsEnum h' e it ((i : Nat) : Int) old ∧ h'.IsListIter it l i ∧ Fr g L h' m ∧ h'.Ns C m' ∧ News g L h' ((D, lst ys) :: nw) ∧
        (∀ p ∈ nw, p.1 ≠ e ∧ p.1 ≠ it ∧ p.1 ≠ C ∧ p.1 ≠ D) ∧ Z h' ∧ Inv i ys nw) ?_ (vs.length + 1)
      ⟨h₁, _, 0, [], _, news, .none, rfl, Nat.zero_le _, rfl, rfl, old _ _ he, ⟨oi0, old _ _ hoi0, by rename_i q; exact q⟩, F.keeps old, hns₁, fun p hp => ?_, fun p hp => ?_, hZ _ _ (fun b o _ q => old b o q) hz0, h0⟩
    · rintro k s' ⟨H, tk, i, ys, m', nw, oldv, rfl, hi, rfl, hyl, he', hit', F', hn', N', off', hzH, hI⟩
      have hl' : H.IsList l vs.toArray := ⟨_, (N' _ (.tail _ (hl i ys nw hI))).1, rfl, c, rfl⟩
      cases hv : vs[i]? with
      | none =>
        have hin : i = vs.length := Nat.le_antisymm hi (by simpa using hv)
        refine wpAny_pyNext_enum_end hh he' hit' hl' (by simpa using hv) fun h₂ he₂ => ?_
        refine fin D C h₂ tk m' ys nw ⟨F'.ns.extBut he₂ (Ne.symm hiL), fun b o q => he₂ b o (fun z => by rw [z, hig] at q; cases q) (F'.keep b o q), F'.above⟩ (fun p hp => ?_) (fun p hp => (off' p hp).2.2.2) (hn'.extBut he₂ (Ne.symm hiC)) hC₀ hCL (Ne.symm hDC) (fun p hp => (off' p hp).2.2.1) (hin ▸ hI)
        rcases List.mem_cons.mp hp with rfl | hp
        · exact ⟨he₂ _ _ (Ne.symm hiD) (N' _ (.head _)).1, (N' _ (.head _)).2⟩
        · exact ⟨he₂ _ _ (off' p hp).2.1 (N' p (.tail _ hp)).1, (N' p (.tail _ hp)).2⟩
      | some v =>
        have hlt : i < vs.length := by
          rcases Nat.lt_or_ge i vs.length with q | q
          · exact q
          · rw [List.getElem?_eq_none q] at hv; cases hv
        refine wpAny_pyNext_enum_item he' hit' hl' (by simpa using hv) hei fun h₂ heo hit₂ ht₂ hz₂ hk₂ => ?_
        refine wpAny_letOwnedTupleGo_enum heo fun h₃ he₃ hs₃ => ?_
        replace hs₃ : Heap.SameBut e h₂ h₃ := hs₃
        have heH : e < H.objs.size := Heap.lt_size he'
        have ht₃ : h₃.IsTuple H.objs.size #[.int i tk, v] := ⟨_, (hs₃.2 _ (Nat.ne_of_gt heH)).trans ht₂, rfl, _, rfl⟩
        have hz₃ : h₃.objs.size = H.objs.size + 1 := hs₃.1.trans hz₂
        refine wpAny_assign_Tuple hh ht₃ rfl rfl fun h₄ hx₄ => ?_
        replace hx₄ : Heap.ExtBut h₃.objs.size h₃ h₄ := hx₄
        have up₄ : ∀ b o, b < H.objs.size → h₃.get? b = some o → h₄.get? b = some o := fun b o hb x => hx₄ b o (by rw [hz₃]; exact Nat.ne_of_lt (Nat.lt_succ_of_lt hb)) x
        have up₃ : ∀ b o, b ≠ e → b ≠ it → H.get? b = some o → h₄.get? b = some o := fun b o h1 h2 q => up₄ b o (Heap.lt_size q) ((hs₃.2 b h1).trans (hk₂ b o h1 h2 q))
        refine assignInOrder_cons (wpAny_assign_Name (wpAny_storeName_local (lookup_relabel_local hxi) (hn'.at' fun o q => up₃ _ o (Ne.symm heC) (Ne.symm hiC) q) (fun h₅ hn₅ hs₅ => ?_) (by simp [compEnvC, relabel, hkind])))
        refine assignInOrder_cons (wpAny_assign_Name (wpAny_storeName_local (lookup_relabel_local hxv) hn₅ (fun h₆ hn₆ hs₆ => ?_) (by simp [compEnvC, relabel, hkind])))
        refine assignInOrder_nil ?_
        have up₅ : ∀ b o, b ≠ C → h₄.get? b = some o → h₆.get? b = some o := fun b o hb q => hs₆.extBut b o hb (hs₅.extBut b o hb q)
        have up : ∀ b o, b ≠ e → b ≠ it → b ≠ C → H.get? b = some o → h₆.get? b = some o := fun b o h1 h2 h3 q => up₅ b o h3 (up₃ b o h1 h2 q)
        obtain ⟨oI, hoI, hcI, hdI⟩ := hit₂
        have hiH : it < H.objs.size := by obtain ⟨o, q, _⟩ := id hit'; exact Heap.lt_size q
        have heE₆ := up₅ e _ heC (up₄ e _ heH he₃)
        have hiI₆ : h₆.get? it = some oI := up₅ it _ hiC (up₄ it _ hiH ((hs₃.2 it (Ne.symm hei)).trans hoI))
        obtain ⟨oC, heC₆, hoC⟩ := ns_obj hn₆
        have F₆ : Fr g L h₆ m := ⟨F'.ns.at' fun o q => up _ o (Ne.symm heL) (Ne.symm hiL) (Ne.symm hCL) q, fun b o q => up b o (fun z => by rw [z, heg] at q; cases q) (fun z => by rw [z, hig] at q; cases q) (fun z => by rw [z, hC₀] at q; cases q) (F'.keep b o q), F'.above⟩
        have N₆ : News g L h₆ ((e, _) :: (it, oI) :: (C, oC) :: (D, lst ys) :: nw) := fun p hp => by
          rcases List.mem_cons.mp hp with rfl | hp
          · exact ⟨heE₆, heL, heg⟩
          rcases List.mem_cons.mp hp with rfl | hp
          · exact ⟨hiI₆, hiL, hig⟩
          rcases List.mem_cons.mp hp with rfl | hp
          · exact ⟨heC₆, hCL, hC₀⟩
          rcases List.mem_cons.mp hp with rfl | hp
          · exact ⟨up _ _ (Ne.symm heD) (Ne.symm hiD) hDC (N' _ (.head _)).1, (N' _ (.head _)).2⟩
          · exact ⟨up _ _ (off' p hp).1 (off' p hp).2.1 (off' p hp).2.2.1 (N' p (.tail _ hp)).1, (N' p (.tail _ hp)).2⟩
        have z₆ : Z h₆ := hZ _ _ (fun b o hb q => up b o (fun z => ?_) (fun z => ?_) (fun z => ?_) q) hzH
        rotate_left
        · rw [z, he'] at q
          cases q
          rcases hb with ⟨z1, _⟩ | ⟨vs', q', t', z1, z2⟩
          · cases z1
          · cases z1; cases z2
        · obtain ⟨o', q1, q2, q3⟩ := hit'
          rw [z, q1] at q
          cases q
          rcases hb with ⟨z1, _⟩ | ⟨vs', q', t', z1, z2⟩
          · rw [q2] at z1; cases z1
          · rw [q3] at z1; cases z1; cases z2
        · obtain ⟨o', es, ep, q1, q2, _⟩ := hn'
          rw [z, q1] at q
          cases q
          rcases hb with ⟨_, vs', z1⟩ | ⟨vs', q', t', z1, z2⟩
          · rw [q2] at z1; cases z1
          · rw [q2] at z1; cases z1
        refine wpAny_mono (step i ys nw v tk C oC D _ oI _ h₆ _ _ hv hI z₆ hoC (by simp [hxx]) (by simp) F₆ N₆ off') (fun y s₇ h₇ => ?_) fun _ _ z => z
        obtain ⟨h₇, tk₇, nw₇, rfl, F₇, N₇, off₇, z₇, hI₇⟩ := h₇
        have zE := (N₇ _ (.head _)).1
        have zI := (N₇ _ (.tail _ (.head _))).1
        have zC := (N₇ _ (.tail _ (.tail _ (.head _)))).1
        have zD := (N₇ _ (.tail _ (.tail _ (.tail _ (.head _))))).1
        refine append_at (hsz := by show ys.toArray.size ≤ sizeLine; rw [List.size_toArray, hyl]; exact Nat.le_trans hi hsz) zD fun h₈ hs₈ hD₈ => ?_
        refine ⟨vs.length + 1 - (i + 1), by omega, h₈, tk₇, i + 1, ys ++ [y], _, nw₇, v, rfl, hlt, rfl, by rw [List.length_append, List.length_singleton, hyl], ?_, ⟨oI, hs₈.extBut _ _ hiD zI, hcI, hdI⟩, F₇.change hs₈ hDL hD₀, (hoC.ns zC).sameBut hs₈ (Ne.symm hDC), fun p hp => ?_, off₇, hZ _ _ (fun b o hb q => hs₈.extBut b o (fun z => ?_) q) z₇, hI₇⟩
        · have : ((i + 1 : Nat) : Int) = (i : Int) + 1 := by omega
          rw [this]; exact hs₈.extBut _ _ heD zE
        · rcases List.mem_cons.mp hp with rfl | hp
          · exact ⟨hD₈.trans (congrArg some (lst_snoc ys y)), hDL, hD₀⟩
          · have z := N₇ p (.tail _ (.tail _ (.tail _ (.tail _ hp))))
            exact ⟨hs₈.extBut _ _ (off₇ p hp).2.2.2 z.1, z.2⟩
        · rw [z, zD] at q
          cases q
          rcases hb with ⟨z1, _⟩ | ⟨vs', q', t', z1, z2⟩
          · cases z1
          · cases z1
    · rcases List.mem_cons.mp hp with rfl | hp
      · exact ⟨hacc, hDL, hD₀⟩
      · exact ⟨old _ _ (N p hp).1, (N p hp).2⟩
    · have hb := below p.1 (hDe ▸ Heap.lt_size (N p hp).1)
      exact ⟨(off p hp).1, (off p hp).2, hb.1, hb.2⟩
  exact codeAny_compStart_list (loop _ rfl) (wpAny_pyIter_enum (old _ _ he) (loop _ rfl))
end
theorem assign_comp {M : Model} {A : Around} {E : Value → Shared → Prop} {s : Shared} {env : Env} {elt target iter : Expr} {y : Str} {py : Pos} {scope : Scope} {cl : List (Str × Addr)} {pos spos : Pos} {ifs : List Expr} {Q : Flow → Shared → Prop}
    (hsw : swapsWith (.ListComp elt [⟨target, iter, ifs, 0⟩] scope pos) (some (.Name y py)) spos.line env = pure true)
    (hclos : closureFor scope env = pure cl) (hkind : scope.kind = .function) (hnames : ∀ z ∈ scope.names, z.2 = .local → scope.names.lookup z.1 = some .local)
    (hs : ∀ x, foldedSetIterable iter env x = pure x)
    (h : wpAny M A (eval iter env) (fun x s₁ => wpAny M A (pyIter x) (fun it s₂ => wpAny M A (newList []) (fun acc s₃ => wpAny M A (newFunctionEnv scope env.globals cl [] env.qual none .none (some env)) (fun cenv s₄ =>
      codeAny M A (.compStart (.ListComp elt [⟨target, iter, ifs, 0⟩] scope pos) 0 it acc { cenv with scope := relabel scope env }) (compPost M A E (some (assign (.Name y py) env)) (fun _ s' => Q .next s') acc cenv.locals) s₄) E s₃) E s₂) E s₁) E s) :
    wpAny M A (exec (.Assign [.Name y py] (.ListComp elt [⟨target, iter, ifs, 0⟩] scope pos) spos) env) Q E s := by
  rw [exec_Assign_Name_used _ _ _ _ hsw]
  refine wpAny_bind (wpAny_standAt (wpAny_bind ?_))
  show wpAny _ A (do let _ ← comprehension (.ListComp elt [⟨target, iter, ifs, 0⟩] scope pos) scope env _ (newList []) false (eval iter env) (some (assign (.Name y py) env))) _ _ s
  exact wpAny_bind (wpAny_mono (wpAny_comprehension_free (use := some (assign (.Name y py) env)) (Q := fun _ s' => Q .next s') rfl hs hclos hkind hnames h) (fun _ s' hq => wpAny_pure (wpAny_pure hq)) fun _ _ e => e)
def rowOf (S : List Int) : List Nat := [67324752, 33639248, 101010256] ++ ((S.drop 2).take 5).map (fun x => (x.fmod (2 ^ 32)).toNat)
def foundN (C : List Nat) (t : Nat) : Nat := C.tail.foldl (lamStep t) (C.headD 0)
def gapsOf (R C : List Nat) : List Nat := (List.range 4).map fun t => tldAt R t R.length ^^^ mirror (foundN C t)
def placesOf (R C : List Nat) (n : Nat) : List Nat := (List.range n).filter (fun p => decide (C.getD p 0 ≠ R.getD p 0))
def dueOk (P : List Nat) (one other : Nat) : Bool := decide (P.filter (fun p => !decide (p = one ∨ p = other)) = [])
def dueIn (R P : List Nat) (one : Nat) : Nat → List PyData
  | 0 => []
  | j + 1 => dueIn R P one j ++ (if dueOk P one (one + 1 + j) then [ansD one (one + 1 + j) R] else [])
def dueOut (R P : List Nat) : Nat → List PyData
  | 0 => []
  | i + 1 => dueOut R P i ++ dueIn R P i (R.length - 1 - i)
theorem take_run (S : List Int) : (S.drop 2).take (min 7 S.length - 2) = (S.drop 2).take 5 := by
  by_cases h : 7 ≤ S.length
  · rw [Nat.min_eq_left h]
  · rw [List.take_of_length_le (by rw [List.length_drop]; omega), List.take_of_length_le (by rw [List.length_drop]; omega)]
theorem ints_append {vs us : List Value} {ns ms : List Int} (h : IntsAre vs ns) (h' : IntsAre us ms) : IntsAre (vs ++ us) (ns ++ ms) := by
  induction h with
  | nil => exact h'
  | cons n t _ ih => exact .cons _ _ ih
theorem rowOf_cast (S : List Int) : castL (rowOf S) = [67324752, 33639248, 101010256] ++ ((S.drop 2).take 5).map (fun x => x.fmod (2 ^ 32)) := by
  simp only [castL, rowOf, List.map_append, List.map_cons, List.map_nil, List.map_map]
  congr 1
  refine List.map_congr_left fun x _ => ?_
  have h0 : 0 ≤ x.fmod (2 ^ 32) := Int.fmod_nonneg_of_pos _ (by decide)
  show ((x.fmod (2 ^ 32)).toNat : Int) = _
  omega
theorem rowOf_length (S : List Int) : 3 ≤ (rowOf S).length ∧ (rowOf S).length ≤ 8 := by
  simp only [rowOf, List.length_append, List.length_cons, List.length_nil, List.length_map, List.length_take]
  omega
theorem fr_kx {g h h' : Heap} {L : Addr} {m : Str → Option Value} (hg : g.get? 39 = none) (hL : L ≠ 39) (F : Fr g L h m) (k : Kx h h') : Fr g L h' m :=
  ⟨F.ns.at' fun o q => k _ o hL q, fun b o e => k b o (fun z => by rw [z, hg] at e; cases e) (F.keep b o e), F.above⟩
theorem news_kx {g h h' : Heap} {L : Addr} {led : List (Addr × Obj)} {o o' : Obj} (N : News g L h (led ++ [(39, o)])) (k : Kx h h') (hl : ∀ p ∈ led, p.1 ≠ 39) (h39 : h'.get? 39 = some o') : News g L h' (led ++ [(39, o')]) := fun p hp => by
  rcases List.mem_append.mp hp with q | q
  · have z := N p (List.mem_append_left _ q)
    exact ⟨k _ _ (hl p q) z.1, z.2⟩
  · rw [List.mem_singleton.mp q]
    exact ⟨h39, (N (39, o) (List.mem_append_right _ (.head _))).2⟩
theorem tab_kc (h h' : Heap) (k : Kc h h') (x : Tab h) : Tab h' := by
  obtain ⟨ps, e, t1, t2⟩ := x
  refine ⟨ps, k _ _ (.inl ⟨rfl, _, rfl⟩) e, t1, fun pos hp => (t2 pos hp).imp id fun ⟨c', a, b, c₂, o, vs, t, e, ho, d1, d2⟩ => ⟨c', a, b, c₂, o, vs, t, e, k _ _ (.inr ⟨_, _, _, d1, d2⟩) ho, d1, d2⟩⟩
theorem mir_lt (w : Nat) : ∀ j, mir w j < 2 ^ j
  | 0 => by simp [mir]
  | j + 1 => by have := mir_lt w j; rw [mir, Nat.pow_succ]; omega
theorem mirror_lt (w : Nat) : mirror w < 2 ^ 32 := mir_lt w 32
theorem gapsOf_length (R C : List Nat) : (gapsOf R C).length = 4 := by simp [gapsOf]
theorem gapsOf_get (R C : List Nat) {i : Nat} (h : i < 4) : (gapsOf R C)[i]? = some (tldAt R i R.length ^^^ mirror (foundN C i)) := by
  simp [gapsOf, List.getElem?_range, h]
theorem gapsOf_take (R C : List Nat) {i : Nat} (h : i < 4) : castL ((gapsOf R C).take (i + 1)) = castL ((gapsOf R C).take i) ++ [((tldAt R i R.length ^^^ mirror (foundN C i) : Nat) : Int)] := by
  rw [List.take_add_one, gapsOf_get R C h]; simp [castL]
theorem placesOf_succ (R C : List Nat) (i : Nat) : castL (placesOf R C (i + 1)) = castL (placesOf R C i) ++ (if C.getD i 0 ≠ R.getD i 0 then [(i : Int)] else []) := by
  rw [placesOf, List.range_succ, List.filter_append, castL, List.map_append]
  congr 1
  by_cases h : C.getD i 0 ≠ R.getD i 0
  · rw [if_pos h, List.filter_cons_of_pos (by simpa using h)]; rfl
  · rw [if_neg h, List.filter_cons_of_neg (by simpa using h)]; rfl
theorem set_cell {M : Model} {A : Around} {E : Value → Shared → Prop} {s : Shared} {env : Env} {g : Heap} {L c : Addr} {m : Str → Option Value} {x : Str} {px : Pos} {v : Value} {v₀ : Option Value} {o : Obj} {rest : List (Addr × Obj)} {Q : Unit → Shared → Prop}
    (F : Fr g L s.heap m) (N : News g L s.heap ((c, o) :: rest)) (hd : o.data = .cell v₀) (hne : ∀ p ∈ rest, p.1 ≠ c)
    (h : ∀ h' o', Fr g L h' m → News g L h' ((c, o') :: rest) → o'.data = .cell (some v) → Q () { s with heap := h' })
    (hk : env.scope.kind = .function := by rfl) (hl : env.kindOf x = some .cell := by rfl) (hc : env.cells.lookup x = some c := by rfl) : wpAny M A (assign (.Name x px) env v) Q E s := by
  have z := N _ (.head _)
  refine wpAny_assign_Name (wpAny_storeName_cell hk hl hc ⟨o, z.1, hd⟩ fun h' hcl hs => ?_)
  obtain ⟨o', ho', hd'⟩ := hcl
  refine h h' o' (F.change hs z.2.1 z.2.2) (fun p hp => ?_) hd'
  rcases List.mem_cons.mp hp with rfl | hp
  · exact ⟨ho', z.2⟩
  · have y := N p (.tail _ hp)
    exact ⟨hs.extBut _ _ (hne p hp) y.1, y.2⟩
/-- what the list of the due answers is, in the loops -/
structure Due (g : Heap) (L la : Addr) (base tl : List (Addr × Obj)) (as : List Value) (ds : List PyData) : Prop where
  off : ∀ p ∈ tl, p.1 ≠ la ∧ p.1 ≠ L + 1 + 1 + 1 ∧ p.1 ≠ L + 1 + 1 + 1 + 1
  base : ∀ p ∈ base, p ∈ tl
  reads : ReadsViaAll g tl as ds
theorem filt_succ (P : List Nat) (f : Nat → Bool) {i x : Nat} (hx : P[i]? = some x) : castL ((P.take (i + 1)).filter f) = castL ((P.take i).filter f) ++ (if f x = true then [(x : Int)] else []) := by
  rw [List.take_add_one, hx, List.filter_append, castL, List.map_append]
  congr 1
  by_cases h : f x = true
  · rw [if_pos h]; simp [h]
  · rw [if_neg h]; simp [h]
theorem any_two (x i j : Nat) : (!(([0 + (i : Int) * 1, 0 + (i : Int) * 1 + 1 + (j : Int) * 1] : List Int).any (· == (x : Int)))) = !decide (x = i ∨ x = i + 1 + j) := by
  congr 1
  rw [Bool.eq_iff_iff]
  simp only [List.any_cons, List.any_nil, Bool.or_false, Bool.or_eq_true, beq_iff_eq, decide_eq_true_eq]
  omega
theorem dueOk_cast (P : List Nat) (one other : Nat) : decide (castL (P.filter (fun p => !decide (p = one ∨ p = other))) = []) = dueOk P one other := by
  rw [dueOk, Bool.eq_iff_iff, decide_eq_true_eq, decide_eq_true_eq, castL, List.map_eq_nil_iff]
theorem lay_ints : ∀ ns : List Int, PyData.canLayAll0 (ns.map .int) = true ∧ PyData.depthAll (ns.map .int) = 0
  | [] => ⟨rfl, rfl⟩
  | n :: r => by
    obtain ⟨a, b⟩ := lay_ints r
    simp only [List.map_cons, PyData.canLayAll0, PyData.canLay0, PyData.depthAll, PyData.depth, a, b]; exact ⟨rfl, rfl⟩
theorem lay_ans (one other : Nat) (R : List Nat) : (ansD one other R).canLay0 = true ∧ (ansD one other R).depth ≤ 2 := by
  obtain ⟨a, b⟩ := lay_ints (castL R)
  simp only [ansD, PyData.canLayAll0, PyData.canLay0, PyData.depthAll, PyData.depth, a, b]; exact ⟨rfl, by decide⟩
theorem lay_all : ∀ ds : List PyData, (∀ d ∈ ds, ∃ one other R, d = ansD one other R) → PyData.canLayAll0 ds = true ∧ PyData.depthAll ds ≤ 2
  | [], _ => ⟨rfl, Nat.zero_le _⟩
  | d :: r, h => by
    obtain ⟨a, b⟩ := lay_all r fun x hx => h x (.tail _ hx)
    obtain ⟨one, other, R, rfl⟩ := h d (.head _)
    obtain ⟨c, e⟩ := lay_ans one other R
    simp only [PyData.canLayAll0, PyData.depthAll, a, c]
    exact ⟨rfl, Nat.max_le.mpr ⟨e, b⟩⟩
theorem dueIn_ans (R P : List Nat) (one : Nat) : ∀ j, ∀ d ∈ dueIn R P one j, ∃ one other R, d = ansD one other R
  | 0, _, h => nomatch h
  | j + 1, d, h => by
    rcases List.mem_append.mp h with q | q
    · exact dueIn_ans R P one j d q
    · split at q
      · exact ⟨_, _, _, List.mem_singleton.mp q⟩
      · exact nomatch q
theorem dueOut_ans (R P : List Nat) : ∀ i, ∀ d ∈ dueOut R P i, ∃ one other R, d = ansD one other R
  | 0, _, h => nomatch h
  | i + 1, d, h => by
    rcases List.mem_append.mp h with q | q
    · exact dueOut_ans R P i d q
    · exact dueIn_ans R P i _ d q
theorem due_shaped (R P : List Nat) (n : Nat) : SeqAt.shaped (.list (dueOut R P n)) = true := by
  obtain ⟨a, b⟩ := lay_all _ (dueOut_ans R P n)
  rw [SeqAt.shaped, PyData.canLay0, PyData.depth, a, Bool.true_and, decide_eq_true_eq]
  omega
theorem tldAt_lt (hPow : ∀ x j, x < 2 ^ 32 → iter powStep j x < 2 ^ 32) (R : List Nat) (t : Nat) : ∀ p, tldAt R t p < 2 ^ 32
  | 0 => by rw [tldAt]; decide
  | p + 1 => by rw [tldAt]; exact Nat.xor_lt_two_pow (tldAt_lt hPow R t p) (hPow _ _ (mirror_lt _))
theorem gapsOf_lt (hPow : ∀ x j, x < 2 ^ 32 → iter powStep j x < 2 ^ 32) (R C : List Nat) (i : Nat) : (gapsOf R C).getD i 0 < 2 ^ 32 := by
  by_cases h : i < 4
  · rw [List.getD_eq_getElem?_getD, gapsOf_get R C h]
    exact Nat.xor_lt_two_pow (tldAt_lt hPow R i _) (mirror_lt _)
  · rw [List.getD_eq_getElem?_getD, List.getElem?_eq_none (by rw [gapsOf_length]; omega)]; decide
theorem due_snoc {g : Heap} {L la lt lr : Addr} {base tl : List (Addr × Obj)} {as : List Value} {ds : List PyData} {one other n c : Nat} {t1 t2 : Tok} {vr : List Value} {R : List Nat} (x : Due g L la base tl as ds)
    (h1 : la < lt) (h2 : @LT.lt Nat _ (L + 1 + 1 + 1) lt) (h3 : @LT.lt Nat _ (L + 1 + 1 + 1 + 1) lt) (hm : (lr, listOf vr.toArray c) ∈ base) (hi : IntsAre vr (castL R)) :
    Due g L la base ((lt, ({ cls := .type "tuple", data := .seq #[.int (one : Int) t1, .int (other : Int) t2, .ref lr] n } : Obj)) :: tl) (as ++ [.ref lt]) (ds ++ [ansD one other R]) := by
  refine ⟨fun p hp => ?_, fun p hp => .tail _ (x.base p hp), via_snoc x.reads (fun p hp => .tail _ hp) (via_ans (.head _) (.tail _ (x.base _ hm)) hi)⟩
  rcases List.mem_cons.mp hp with rfl | hp
  · exact ⟨Nat.ne_of_gt h1, Nat.ne_of_gt h2, Nat.ne_of_gt h3⟩
  · exact x.off p hp
section
variable {w : World} {dp un : Nat} {fr : Option (List Env)} {gd : Option (List Code)} {s : Shared} {Q E : Value → Shared → Prop}
theorem law_c (W : Wd w (gh s.heap)) (hd : dp + 50 < recursionLimit) (hu : un + 300 < cLine) {ls : Addr} {ss : List Value} {S : List Int} (hT : Tab s.heap) (hls : s.heap.IsList ls ss.toArray) (hS : IntsAre ss S) (hS63 : S.length ≤ 63)
   (hPow : ∀ x j, x < 2 ^ 32 → iter powStep j x < 2 ^ 32)
   (hov : ∀ x k m, m < k → k < 8 → (ovAt x (iter powStep k 1 ^^^ iter powStep m 1) (ovN (iter powStep k 1 ^^^ iter powStep m 1))).low = 1 ∧ ∀ j < ovN (iter powStep k 1 ^^^ iter powStep m 1), (ovAt x (iter powStep k 1 ^^^ iter powStep m 1) j).low ≠ 1)
   (hmath : outerD (changedL (rowOf S) S) (gapsOf (rowOf S) (changedL (rowOf S) S)) (changedL (rowOf S) S).length = dueOut (rowOf S) (placesOf (rowOf S) (changedL (rowOf S) S) (rowOf S).length) (rowOf S).length)
   (hQ : ∀ h' tk, Kx s.heap h' → (∃ ps, h'.get? 39 = some (tabObj ps)) → Q (.bool true) {s with heap := h', toks := tk}) : wpAny (Mo w) (Am dp un fr gd) (call (.ref 89) [.ref ls]) Q E s := by
  obtain ⟨X, ⟨pT, loose, mean, mg, mb, T⟩, CH⟩ := id (W.keeps fun b o e => of_hideAll _ e)
  refine enterC (K := Mine.hd.heap_39 w.params) (binds := [(Str.ofString "script", .ref ls)]) (fun v h' => v = .bool true ∧ Kx s.heap h' ∧ ∃ ps, h'.get? 39 = some (tabObj ps)) X T.nolimit (by omega) (by k_is) (by k_is) (by exact BindsTo.of_eq rfl) (by exact rfl) (by decide) ?_ ?_ (by rfl) (by rfl) (by rfl)
  rotate_left
  · intro v h' tk e; obtain ⟨rfl, k, e2⟩ := e; exact hQ h' tk k e2
  intro L h₁ tk cells F N Y hlt
  obtain ⟨o2, o1, oC, oR, rfl, d2, d1, dC, dR⟩ := CellsAre.four Y
  obtain ⟨ps, hps, hta⟩ := hT
  replace d2 : o2.data = .cell none := d2
  replace d1 : o1.data = .cell none := d1
  replace dC : oC.data = .cell none := dC
  replace dR : oR.data = .cell none := dR
  have h39 : (39 : Nat) < L := hlt _ _ hps
  have hls39 : (gh s.heap).IsList ls ss.toArray := by
    obtain ⟨o, ho, hc, n, hd⟩ := hls
    exact ⟨o, gh_get ho (fun e => by rw [e, hps] at ho; cases ho; cases hc), hc, n, hd⟩
  have F1 : Fr (gh s.heap) L h₁ (fun y => if y = Str.ofString "script" then some (.ref ls) else none) := ⟨F.ns, fun b o e => F.keep b o (of_hideAll _ e), Nat.le_trans (Nat.le_of_eq (hideAll_size _ _)) F.above⟩
  have N1 : News (gh s.heap) L h₁ [(L + 1 + 1 + 1 + 1, o2), (L + 1 + 1 + 1, o1), (L + 1 + 1, oC), (L + 1, oR), (39, tabObj ps)] := fun p hp => by
    have old : ∀ q ∈ [(L + 1 + 1 + 1 + 1, o2), (L + 1 + 1 + 1, o1), (L + 1 + 1, oC), (L + 1, oR)], h₁.get? q.1 = some q.2 ∧ q.1 ≠ L ∧ (gh s.heap).get? q.1 = none := fun q hq => by
      have z := N q hq
      refine ⟨z.1, z.2.1, ?_⟩
      cases e : (gh s.heap).get? q.1 with
      | none => rfl
      | some o => have := of_hideAll _ e; rw [z.2.2] at this; cases this
    rcases (List.mem_append (s := [(L + 1 + 1 + 1 + 1, o2), (L + 1 + 1 + 1, o1), (L + 1 + 1, oC), (L + 1, oR)]) (t := [(39, tabObj ps)])).mp hp with q | q
    · exact old p q
    · rw [List.mem_singleton.mp q]
      exact ⟨F.keep _ _ hps, Nat.ne_of_lt h39, hideAll_none _ (.head _)⟩
  clear F N Y
  obtain ⟨X, ⟨pT, loose, mean, mg, mb, T⟩, CH⟩ := id W
  walk_at "gs"
  rename Fr _ _ _ _ => F
  rename News _ _ _ _ => N
  rename_i l0 _ l1
  have hSl : ss.length = S.length := hS.length
  refine LCg.ListComp_U F rfl (by decide) rfl (by decide) rfl ?_ (by intro _; rfl)
  walk_at "gs"
  refine kmk_slice_ints F N (F.lst hls39) (IsPart.int _ _) (IsPart.int _ _) hS (kmk_run hS (by decide) (by decide)) rfl ?_ (by with_unfolding_all rfl) (by intro _; with_unfolding_all rfl) (by rw [List.size_toArray, hSl, sizeLine_eq]; omega)
  intro l2 v2 h2 F2 N2 lt2 hi2 _ _
  replace hi2 : IntsAre v2 ((S.drop 2).take 5) := by rw [← take_run S]; exact hi2
  clear F N
  have hl2 : v2.length = ((S.drop 2).take 5).length := hi2.length
  have hl25 : v2.length ≤ 5 := by rw [hl2, List.length_take]; omega
  refine LCg.CompSrc.ledger rfl F2 N2 (.head _) (by rw [List.size_toArray, sizeLine_eq]; omega) ?_
  intro g2
  generalize hB0 : ((l0, _) :: [(L + 1 + 1 + 1 + 1, o2), (L + 1 + 1 + 1, o1), (L + 1 + 1, oC), (L + 1, oR), (39, tabObj ps)] : List (Addr × Obj)) = B0 at N2
  refine compRest_of (fun i ys news => news = (l2, listOf v2.toArray 0) :: B0 ∧ IntsAre ys ((((S.drop 2).take 5).take i).map fun x => x.fmod (2 ^ 32))) ?_ ?_ _ 0 [] _ (Nat.zero_add _) ⟨rfl, .nil⟩
  · rintro i ys news v I oI C' oC' D m₂ h tk E' hi ⟨rfl, hys⟩ hP hns hm F4 N4 off hne
    rw [List.size_toArray] at hi
    have hi' : i < ((S.drop 2).take 5).length := by omega
    obtain ⟨tv, hv⟩ := hi2.get i (((S.drop 2).take 5).getD i 0) (by rw [List.getD_eq_getElem?_getD, List.getElem?_eq_getElem hi']; rfl)
    have hv2 : v = .int (((S.drop 2).take 5).getD i 0) tv := by
      have q : v2[i]? = some v := by simpa using hP
      rw [hv] at q; exact (Option.some.inj q).symm
    subst hv2
    refine wpAny_BinOp (nm_loc (hns.ns (N4 _ (.tail _ (.head _))).1) hm ?_)
    walk1
    walk1
    walk1
    walk1
    walk1
    refine LCg.CompEnd.intro F4 N4 ((l2, listOf v2.toArray 0) :: B0) (fun _ h => h) off (.inr ⟨listOf v2.toArray 0, .head _, rfl, 0, rfl⟩) ⟨rfl, ?_⟩
    have htk : ((S.drop 2).take 5).take (i + 1) = ((S.drop 2).take 5).take i ++ [((S.drop 2).take 5).getD i 0] := by
      rw [List.take_add_one (l := (S.drop 2).take 5), List.getD_eq_getElem?_getD, List.getElem?_eq_getElem hi']; rfl
    rw [htk, List.map_append]
    exact ints_snoc hys _ _
  · rintro ys news ⟨rfl, hys⟩
    rw [List.size_toArray, hl2, List.take_length] at hys
    intro D h3 tk3 F3 N3 off3
    clear F2 N2
    rw [← hB0] at N3
    refine kmk_add_ints F3 N3 (N3.isList (.tail _ (.tail _ (.head _)))) (N3.isList (.head _)) (.cons _ _ (.cons _ _ (.cons _ _ .nil))) hys ?_ ?_
    rotate_left
    · rw [List.length_map, ← hl2, sizeLine_eq]; simp only [List.length_cons, List.length_nil]; omega
    intro lr vr h4 F4 N4 lt4 hi4
    have hlr : @LT.lt Nat _ (L + 1 + 1 + 1 + 1) lr := lt4 (L + 1 + 1 + 1 + 1, o2) (by simp)
    clear lt4
    rw [← rowOf_cast] at hi4
    clear F3 N3
    obtain ⟨hR3, hR8⟩ := rowOf_length S
    generalize hRdef : rowOf S = R at *
    replace N4 := kst_newsOf (l' := [(lr, listOf vr.toArray 0), (L + 1 + 1 + 1 + 1, o2), (L + 1 + 1 + 1, o1), (L + 1 + 1, oC), (L + 1, oR), (39, tabObj ps)]) N4 (by simp)
    dsimp only
    walk_at "gs"
    rename Fr _ _ _ _ => F
    rename News _ _ _ _ => N
    rename_i oR' dR'
    refine changed_c (W.keeps F.keep) (by omega) (by omega) (N _ (.head _)).1 hi4 (by omega) hR8 (F.lst hls39) hS hS63 ?_
    intro lc vc cc h5 tk5 hk5 hf5 ho5 hi5
    obtain ⟨N5, hne5⟩ := News.add F N hk5 hf5 ho5
    replace F := F.keeps hk5
    clear N
    have hClen : (changedL R S).length = R.length := by rw [changedL, chgs_length]
    generalize hCdef : changedL R S = C at *
    have hlcL : @Ne Nat (L + 1 + 1) lc := hne5 (L + 1 + 1, oC) (by simp)
    have hlcR : @Ne Nat lr lc := hne5 (lr, listOf vr.toArray 0) (by simp)
    dsimp only
    walk_at "gs"
    rename Fr _ _ _ _ => F
    rename News _ _ _ _ => N
    rename_i oC' dC'
    have hCW : ∀ {h : Heap} {m}, Fr (gh s.heap) L h m → Wd w (gh h) := fun {h m} F => W.keeps fun b o e => by
      have hb : b ≠ 39 := fun z => by rw [z] at e; rw [gh, hideAll_none _ (.head _)] at e; cases e
      exact gh_get (F.keep b o e) hb
    have hg39 : (gh s.heap).get? 39 = none := hideAll_none _ (.head _)
    refine assign_comp rfl rfl rfl (by decide) (by intro _; rfl) ?_
    walk_at "gs"
    refine told_c (W.keeps F.keep) (by omega) (by omega) (N (lr, listOf vr.toArray 0) (by simp)).1 hi4 (by omega) hR8 (fun p j => hPow _ _ (mirror_lt _)) ?_
    intro lt vt ct h6 tk6 hk6 hf6 ho6 hi6
    obtain ⟨N6, hne6⟩ := News.add F N hk6 hf6 ho6
    replace F := F.keeps hk6
    clear N
    have hvt : vt.length = 4 := by rw [hi6.length, tldIn_length]
    dsimp only
    walk_at "gs"
    refine call_enumerate_list ⟨_, ho6, rfl, _, rfl⟩ ?_
    intro h7 he7 hit7 hsz7 hk7
    dsimp only
    walk_at "gs"
    refine wpAny_pyIter_enum he7 ?_
    have N7 := N6.grown hk7
    have hlc39 : (39 : Nat) < lr := by
      have : (L + 1 + 1 + 1 + 1 : Nat) < lr := hlr
      have : (39 : Nat) < L := h39
      omega
    obtain ⟨B1, hB1⟩ : ∃ B1, B1 = [(lt, listOf vt.toArray ct), (lc, listOf vc.toArray cc), (lr, listOf vr.toArray 0), (L + 1 + 1 + 1 + 1, o2), (L + 1 + 1 + 1, o1), (L + 1 + 1, oC'), (L + 1, oR')] := ⟨_, rfl⟩
    have N7 : News (gh s.heap) L h7 (B1 ++ [(39, tabObj ps)]) := kst_newsOf (N6.grown hk7) (by rw [hB1]; simp)
    have hlt6 : ∀ p ∈ B1 ++ [(39, tabObj ps)], p.1 ≠ h6.objs.size + 1 ∧ p.1 ≠ h6.objs.size := fun p hp => by
      have q := Heap.lt_size ((kst_newsOf (l' := B1 ++ [(39, tabObj ps)]) N6 (by rw [hB1]; simp)) p hp).1
      exact ⟨Nat.ne_of_lt (Nat.lt_succ_of_lt q), Nat.ne_of_lt q⟩
    have hB139 : ∀ p ∈ B1, p.1 ≠ 39 := by
      have a1 : lt ≠ 39 := Ne.symm (hne6 (39, tabObj ps) (by simp))
      have a2 : lc ≠ 39 := Ne.symm (hne5 (39, tabObj ps) (by simp))
      have a3 : (39 : Nat) < L := h39
      intro p hp
      rw [hB1] at hp
      simp only [List.mem_cons, List.not_mem_nil, or_false] at hp
      rcases hp with rfl | rfl | rfl | rfl | rfl | rfl | rfl
      · exact a1
      · exact a2
      · exact Nat.ne_of_gt hlc39
      · exact Nat.ne_of_gt (Nat.lt_succ_of_lt (Nat.lt_succ_of_lt (Nat.lt_succ_of_lt (Nat.lt_succ_of_lt h39))))
      · exact Nat.ne_of_gt (Nat.lt_succ_of_lt (Nat.lt_succ_of_lt (Nat.lt_succ_of_lt h39)))
      · exact Nat.ne_of_gt (Nat.lt_succ_of_lt (Nat.lt_succ_of_lt h39))
      · exact Nat.ne_of_gt (Nat.lt_succ_of_lt h39)
    have hmt : (lt, listOf vt.toArray ct) ∈ B1 := by rw [hB1]; simp
    have hmc : (lc, listOf vc.toArray cc) ∈ B1 := by rw [hB1]; simp
    have hmC : (L + 1 + 1, oC') ∈ B1 := by rw [hB1]; simp
    have hL39 : L ≠ 39 := Nat.ne_of_gt h39
    have f6 : ∀ a, h6.objs.size ≤ a → (gh s.heap).get? a = none := fun a ha => by
      cases q : (gh s.heap).get? a with
      | none => rfl
      | some o' => exact absurd (Heap.lt_size (F.keep a o' q)) (Nat.not_lt.mpr ha)
    have hLlt : L < h6.objs.size := F.ns.lt
    clear N6
    refine comp_enum (vs := vt) (c := ct) (l := lt) (fun i ys nw => ∃ ps', nw = B1 ++ [(39, tabObj ps')] ∧ IntsAre ys (castL ((gapsOf R C).take i))) Tab tab_kc ⟨ps, (N7 (39, tabObj ps) (by simp)).1, hta.gh.keeps (F.keeps hk7).keep⟩ rfl (by decide) rfl rfl rfl (by decide)
      (by rintro i ys nw ⟨ps', rfl, _⟩; exact List.mem_append_left _ hmt) he7 hit7 (Nat.succ_ne_self _) (F.keeps hk7) N7 (Nat.ne_of_gt (Nat.lt_succ_of_lt hLlt)) (Nat.ne_of_gt hLlt) (f6 _ (Nat.le_succ _)) (f6 _ (Nat.le_refl _)) hlt6 ⟨ps, rfl, .nil⟩ (by rw [hvt, sizeLine_eq]; omega) ?_ ?_
    · clear F
      rintro i ys nw v tk0 C' oCC D oE oI m₂ h tk E' hv ⟨ps', rfl, hys⟩ hz hoC hm1 hm2 F N off
      have hi : i < 4 := by
        rcases Nat.lt_or_ge i vt.length with q | q
        · omega
        · rw [List.getElem?_eq_none q] at hv; cases hv
      obtain ⟨tv, hv'⟩ := hi6.get i ((tldAt R i R.length : Nat) : Int) (by rw [tldIn_get _ _ _ hi]; simp)
      rw [hv] at hv'
      cases hv'
      refine wpAny_BinOp (nm_loc (hoC.ns (N _ (.tail _ (.tail _ (.head _)))).1) hm2 ?_)
      refine Call_ ?_ (by rfl)
      refine nameG_K F X (topRead_of T) (by k_is) ?_ rfl rfl rfl (by decide)
      refine callWith_K X (by k_is) ?_
      refine args_cons (Call_ ?_ (by rfl)) (by rfl)
      refine nameG_K F X (topRead_of T) (by k_is) ?_ rfl rfl rfl (by decide)
      refine callWith_K X (by k_is) ?_
      refine args_cons (nm_cell rfl (N (L + 1 + 1, oC') (by simp [hmC])).1 dC' ?_) (by rfl)
      refine args_cons (nm_loc (hoC.ns (N _ (.tail _ (.tail _ (.head _)))).1) hm1 ?_) (by rfl)
      refine args_nil ⟨X.keeps F.keep, ?_⟩
      refine found_c (hCW F) (by omega) (by omega) hz (N (lc, listOf vc.toArray cc) (by simp [hmc])).1 hi5 (by omega) (by omega) (by omega) ?_
      intro t8 h8 tk8 hk8 hz8
      obtain ⟨ps8, hps8, hta8⟩ := id hz8
      have o39 := off (39, tabObj ps') (by simp)
      have F8 := fr_kx hg39 hL39 F hk8
      have N8 : News (gh s.heap) L h8 (((h6.objs.size + 1, oE) :: (h6.objs.size, oI) :: (C', oCC) :: (D, LCg.lst ys) :: B1) ++ [(39, tabObj ps8)]) := news_kx N hk8 (fun p hp => by
        simp only [List.mem_cons] at hp
        rcases hp with rfl | rfl | rfl | rfl | q
        · exact Ne.symm o39.1
        · exact Ne.symm o39.2.1
        · exact Ne.symm o39.2.2.1
        · exact Ne.symm o39.2.2.2
        · exact hB139 p q) hps8
      refine args_nil ⟨X.keeps F8.keep, ?_⟩
      refine mirrored_c' (W.keeps F8.keep) (by omega) (by omega) rfl ?_
      intro t9 h9 tk9 hk9
      walk1
      refine ⟨h9, _, B1 ++ [(39, tabObj ps8)], rfl, F8.keeps hk9, kst_newsOf (N8.grown hk9) (fun p hp => by simpa using hp), fun p hp => ?_, ⟨ps8, hk9 _ _ hps8, hta8.keeps hk9⟩, ps8, rfl, ?_⟩
      · rcases List.mem_append.mp hp with q | q
        · exact off p (List.mem_append_left _ q)
        · rw [List.mem_singleton.mp q]; exact o39
      · rw [gapsOf_take R C hi, bx]
        exact ints_snoc hys _ _
    · rintro D C' h tk m' ys nw F8 N8 off8 hns8 hgC hCL hCD offC ⟨ps8, rfl, hys⟩
      clear F
      rw [hvt, List.take_of_length_le (by rw [gapsOf_length]; omega)] at hys
      refine wpAny_assign_Name (wpAny_storeName_local rfl F8.ns (fun h₂ hn₂ hs₂ => ?_) rfl)
      have hL₀ : (gh s.heap).get? L = none := Heap.get?_none_of_le F8.above
      refine ⟨m', hns8.sameBut hs₂ hCL, fun h9 hs9 => ?_⟩
      have F9 : Fr (gh s.heap) L h9 (fun z => if z = Str.ofString "gaps" then some (.ref D) else if z = Str.ofString "script" then some (.ref ls) else none) := by
        have F₂ : Fr (gh s.heap) L h₂ (fun z => if z = Str.ofString "gaps" then some (.ref D) else if z = Str.ofString "script" then some (.ref ls) else none) := ⟨hn₂, fun b o e => hs₂.extBut b o (fun q => by have q' : b = L := q; rw [q', hL₀] at e; cases e) (F8.keep b o e), F8.above⟩
        exact F₂.change hs9 hCL hgC
      have N9 : News (gh s.heap) L h9 ((D, LCg.lst ys) :: (B1 ++ [(39, tabObj ps8)])) := fun p hp => by
        refine ⟨hs9.extBut _ _ ?_ (hs₂.extBut _ _ (N8 p hp).2.1 (N8 p hp).1), (N8 p hp).2⟩
        rcases List.mem_cons.mp hp with rfl | hp
        · exact Ne.symm hCD
        · exact offC p hp
      have hDB : ∀ p ∈ B1, p.1 ≠ D := fun p hp => off8 p (List.mem_append_left _ hp)
      clear F8 N8 offC off8 hns8 hn₂ hs₂ hs9 N7 hlt6 f6
      have hDlc : @Ne Nat lc D := hDB (lc, listOf vc.toArray cc) hmc
      have hDlr : @Ne Nat lr D := hDB (lr, listOf vr.toArray 0) (by rw [hB1]; simp)
      have hD4 : @Ne Nat (L + 1 + 1 + 1 + 1) D := hDB (L + 1 + 1 + 1 + 1, o2) (by rw [hB1]; simp)
      have hD3 : @Ne Nat (L + 1 + 1 + 1) D := hDB (L + 1 + 1 + 1, o1) (by rw [hB1]; simp)
      replace N9 := kst_newsOf (l' := [(D, listOf ys.toArray ys.length), (lc, listOf vc.toArray cc), (lr, listOf vr.toArray 0), (L + 1 + 1 + 1 + 1, o2), (L + 1 + 1 + 1, o1), (L + 1 + 1, oC'), (L + 1, oR'), (39, tabObj ps8)]) N9 (by rw [hB1]; simp)
      clear hmt hmc hmC hB139 hDB
      clear N7 hB1 B1
      dsimp only
      walk_at "gs"
      refine LCt.Assign_ListComp_T F9 rfl rfl rfl (by decide) rfl (by decide) rfl rfl rfl ?_ (by intro _; rfl)
      walk_at "gs"
      have hvr : vr.length = R.length := by rw [hi4.length, castL_length]
      refine len_at (N9 (lr, listOf vr.toArray 0) (by simp)).1 hvr (by omega) ?_
      intro t10 tk10
      dsimp only
      walk_at "gs"
      rename Fr _ _ _ _ => F
      rename News _ _ _ _ => N
      refine LCt.CompSrcT.range rfl F N (by assumption) (small_one (by omega) (by omega) (by omega) (by omega)) (n := ((R.length : Int) - 0).toNat) (rangeSize_nat _ _) (by rw [sizeLine_eq]; omega) ?_
      intro g10
      obtain ⟨B2, hB2⟩ : ∃ B2, B2 = [(D, listOf ys.toArray ys.length), (lc, listOf vc.toArray cc), (lr, listOf vr.toArray 0), (L + 1 + 1 + 1 + 1, o2), (L + 1 + 1 + 1, o1), (L + 1 + 1, oC'), (L + 1, oR'), (39, tabObj ps8)] := ⟨_, rfl⟩
      have hmc : (lc, listOf vc.toArray cc) ∈ B2 := by rw [hB2]; simp
      have hmr : (lr, listOf vr.toArray 0) ∈ B2 := by rw [hB2]; simp
      have hmC : (L + 1 + 1, oC') ∈ B2 := by rw [hB2]; simp
      have hmR : (L + 1, oR') ∈ B2 := by rw [hB2]; simp
      refine compRestT_of (fun i zs news => news = B2 ∧ IntsAre zs (castL (placesOf R C i))) ?_ ?_ _ 0 [] _ (Nat.zero_add _) ⟨by rw [hB2], .nil⟩
      · rintro i zs news v I oI C' oCC D' m₂ h tk E' hi ⟨rfl, hzs⟩ ⟨t11, rfl⟩ hns hm F4 N4 off hne
        have hiR : i < R.length := by omega
        have hns' := hns.ns (N4 _ (.tail _ (.head _))).1
        refine wpAny_isTrue_Compare1 ?_
        walk1
        refine nm_cell rfl (N4 (L + 1 + 1, oC') (by simp [hmC])).1 dC' ?_
        refine nm_loc hns' hm ?_
        refine sub_i (N4 (lc, listOf vc.toArray cc) (by simp [hmc])).1 hi5 (i := i) (by omega) (by rw [castL_length]; omega) (by omega) ?_
        intro t12; rw [castL_getD]
        walk1
        refine nm_cell rfl (N4 (L + 1, oR') (by simp [hmR])).1 dR' ?_
        refine nm_loc hns' hm ?_
        refine sub_i (N4 (lr, listOf vr.toArray 0) (by simp [hmr])).1 hi4 (i := i) (by omega) (by rw [castL_length]; omega) (by omega) ?_
        intro t13; rw [castL_getD]
        walk1
        refine wpAny_truthy_bool ?_
        by_cases hcr : C.getD i 0 = R.getD i 0
        · rw [if_neg (by rw [hcr]; simp)]
          refine LCg.CompEnd.intro F4 N4 news (fun _ h => h) off trivial ⟨rfl, ?_⟩
          rw [placesOf_succ, if_neg (by simpa using hcr), List.append_nil]
          exact hzs
        · rw [if_pos (bne_iff_ne.mpr fun h => hcr (Int.ofNat_inj.mp h))]
          refine nm_loc hns' hm ?_
          refine LCg.CompEnd.intro F4 N4 news (fun _ h => h) off trivial ⟨rfl, ?_⟩
          rw [placesOf_succ, if_pos hcr, Int.zero_add]
          exact ints_snoc hzs _ _
      · rintro zs news ⟨rfl, hzs⟩
        intro Dp h11 tk11 F11 N11 off11
        clear F N hmc hmr hmC hmR
        subst hB2
        obtain ⟨hPD, hPlc, hPlr, hPl4, hPl3, hPl2, hPl1, hP39, -⟩ := off11
        replace hPl4 : @Ne Nat (L + 1 + 1 + 1 + 1) Dp := hPl4
        replace hPl3 : @Ne Nat (L + 1 + 1 + 1) Dp := hPl3
        have hzsl : zs.length ≤ 8 := by
          rw [hzs.length, castL_length]
          refine Nat.le_trans (List.length_filter_le _ _) ?_
          rw [List.length_range]; omega
        dsimp only
        walk_at "gs"
        rename Fr _ _ _ _ => F
        rename News _ _ _ _ => N
        rename_i la _ l1a _
        obtain ⟨q1, q2, q3, q4, q5, q6, q7, q8, q9⟩ := l1a
        generalize hP : placesOf R C R.length = P at *
        replace hzs : IntsAre zs (castL P) := by
          have e : ((R.length : Int) - 0).toNat = R.length := by omega
          rw [e, hP] at hzs; exact hzs
        obtain ⟨B3, hB3⟩ : ∃ B3, B3 = [(Dp, listOf zs.toArray zs.length), (D, listOf ys.toArray ys.length), (lc, listOf vc.toArray cc), (lr, listOf vr.toArray 0), (L + 1 + 1, oC'), (39, tabObj ps8)] := ⟨_, rfl⟩
        have hmP : (Dp, listOf zs.toArray zs.length) ∈ B3 := by rw [hB3]; simp
        have hmG : (D, listOf ys.toArray ys.length) ∈ B3 := by rw [hB3]; simp
        have hmc : (lc, listOf vc.toArray cc) ∈ B3 := by rw [hB3]; simp
        have hmr : (lr, listOf vr.toArray 0) ∈ B3 := by rw [hB3]; simp
        have hmC : (L + 1 + 1, oC') ∈ B3 := by rw [hB3]; simp
        have hm39 : (39, tabObj ps8) ∈ B3 := by rw [hB3]; simp
        have hDue : Due (gh s.heap) L la B3 B3 [] (dueOut R P 0) := by
          refine ⟨?_, fun _ h => h, ReadsViaAll.nil⟩
          intro p hp
          rw [hB3] at hp
          simp only [List.mem_cons, List.not_mem_nil, or_false] at hp
          have a3 : (39 : Nat) < L := h39
          have a4 : (L + 1 + 1 + 1 + 1 : Nat) < lr := hlr
          rcases hp with rfl | rfl | rfl | rfl | rfl | rfl
          · exact ⟨Nat.ne_of_lt q1, Ne.symm hPl3, Ne.symm hPl4⟩
          · exact ⟨Nat.ne_of_lt q2, Ne.symm hD3, Ne.symm hD4⟩
          · exact ⟨Nat.ne_of_lt q3, Ne.symm (hne5 (L + 1 + 1 + 1, o1) (by simp)), Ne.symm (hne5 (L + 1 + 1 + 1 + 1, o2) (by simp))⟩
          · exact ⟨Nat.ne_of_lt q4, Nat.ne_of_gt (Nat.lt_of_succ_lt hlr), Nat.ne_of_gt hlr⟩
          · exact ⟨Nat.ne_of_lt q7, Nat.ne_of_lt (Nat.lt_succ_self _), Nat.ne_of_lt (Nat.lt_succ_of_lt (Nat.lt_succ_self _))⟩
          · exact ⟨Nat.ne_of_lt q9, Nat.ne_of_lt (Nat.lt_succ_of_lt (Nat.lt_succ_of_lt (Nat.lt_succ_of_lt h39))), Nat.ne_of_lt (Nat.lt_succ_of_lt (Nat.lt_succ_of_lt (Nat.lt_succ_of_lt (Nat.lt_succ_of_lt h39))))⟩
        have hla3 : (L + 1 + 1 + 1 : Nat) ≠ la := Nat.ne_of_lt q6
        have hla4 : (L + 1 + 1 + 1 + 1 : Nat) ≠ la := Nat.ne_of_lt q5
        have hla1 : (L + 1 : Nat) ≠ la := Nat.ne_of_lt q8
        replace N := kst_newsOf (l' := (la, listOf #[] 0) :: (L + 1 + 1 + 1, o1) :: (L + 1 + 1 + 1 + 1, o2) :: (L + 1, oR') :: B3) N (by rw [hB3]; simp)
        refine wpAny_For ?_ (by intro _; rfl)
        walk_at "gs"
        refine len_at (N (lr, listOf vr.toArray 0) (by simp [hmr])).1 hvr (by omega) ?_
        intro t20 tk20
        dsimp only
        walk_at "gs"
        rename Fr _ _ _ _ => F
        rename News _ _ _ _ => N
        refine loop_range (n := ((R.length : Int) - 0).toNat) (fun i m led => m (Str.ofString "gaps") = some (.ref D) ∧ m (Str.ofString "places") = some (.ref Dp) ∧ m (Str.ofString "due") = some (.ref la) ∧
          ∃ as ca tl a1 a2 x1 x2, led = (la, listOf as.toArray ca) :: (L + 1 + 1 + 1, a1) :: (L + 1 + 1 + 1 + 1, a2) :: (L + 1, oR') :: tl ∧ a1.data = .cell x1 ∧ a2.data = .cell x2 ∧ Due (gh s.heap) L la B3 tl as (dueOut R P i) ∧ as.length ≤ 8 * i) rfl (by assumption) (small_one (by omega) (by omega) (by omega) (by omega)) (rangeSize_nat _ _) F N ⟨rfl, rfl, rfl, [], 0, B3, o1, o2, none, none, rfl, d1, d2, hDue, Nat.zero_le _⟩ ?_ ?_ (by intro _ _; rfl)
        · clear F N hDue
          rintro i t₁ m₁ led₁ h tk I o hi ⟨m1, m2, m3, as, ca, tl, a1, a2, x1, x2, rfl, e1, e2, hDue, hal⟩ hIl F₁ N₁
          replace F₁ := Fr.seen F₁ m1
          replace F₁ := Fr.seen (x := Str.ofString "places") (v := .ref Dp) F₁ m2
          replace F₁ := Fr.seen (x := Str.ofString "due") (v := .ref la) F₁ m3
          have hin : i < R.length := by omega
          have hlaI : la ≠ I := hIl _ (.head _)
          have h3I : (L + 1 + 1 + 1 : Nat) ≠ I := hIl _ (.tail _ (.head _))
          have h4I : (L + 1 + 1 + 1 + 1 : Nat) ≠ I := hIl _ (.tail _ (.tail _ (.head _)))
          have h1I : (L + 1 : Nat) ≠ I := hIl _ (.tail _ (.tail _ (.tail _ (.head _))))
          have htI : ∀ p ∈ tl, p.1 ≠ I := fun p hp => hIl p (.tail _ (.tail _ (.tail _ (.tail _ hp))))
          replace N₁ := kst_newsOf (l' := (L + 1 + 1 + 1, a1) :: (la, listOf as.toArray ca) :: (L + 1 + 1 + 1 + 1, a2) :: (I, o) :: (L + 1, oR') :: tl) N₁ (by
            intro p hp; simp only [List.mem_cons] at hp ⊢
            rcases hp with q | q | q | q | q | q
            · exact .inr (.inr (.inl q))
            · exact .inr (.inl q)
            · exact .inr (.inr (.inr (.inl q)))
            · exact .inl q
            · exact .inr (.inr (.inr (.inr (.inl q))))
            · exact .inr (.inr (.inr (.inr (.inr q)))))
          refine set_cell F₁ N₁ e1 ?_ ?_
          · intro p hp
            simp only [List.mem_cons] at hp
            rcases hp with q | q | q | q | q
            · rw [q]; exact Ne.symm hla3
            · rw [q]; exact Nat.ne_of_gt (Nat.lt_succ_self _)
            · rw [q]; exact Ne.symm h3I
            · rw [q]; exact Nat.ne_of_lt (Nat.lt_succ_of_lt (Nat.lt_succ_self _))
            · exact (hDue.off p q).2.1
          intro h20 a1' F2 N2 e1'
          clear F₁ N₁
          dsimp only
          walk_at "gs"
          refine wpAny_For ?_ (by intro _; rfl)
          walk_at "gs"
          have hvR := N2 (lr, listOf vr.toArray 0) (.tail _ (.tail _ (.tail _ (.tail _ (.tail _ (hDue.base _ hmr))))))
          rename Fr _ _ _ _ => F
          rename News _ _ _ _ => N
          refine len_at (N (lr, listOf vr.toArray 0) (.tail _ (.tail _ (.tail _ (.tail _ (.tail _ (hDue.base _ hmr))))))).1 hvr (by omega) ?_
          intro t21 tk21
          dsimp only
          walk_at "gs"
          rename Fr _ _ _ _ => F
          rename News _ _ _ _ => N
          refine loop_range (n := ((R.length : Int) - (0 + (i : Int) * 1 + 1)).toNat) (fun j m led => m (Str.ofString "gaps") = some (.ref D) ∧ m (Str.ofString "places") = some (.ref Dp) ∧ m (Str.ofString "due") = some (.ref la) ∧
            ∃ as ca tl a2 x2, led = (L + 1 + 1 + 1, a1') :: (la, listOf as.toArray ca) :: (L + 1 + 1 + 1 + 1, a2) :: (I, o) :: (L + 1, oR') :: tl ∧ a2.data = .cell x2 ∧ Due (gh s.heap) L la B3 tl as (dueOut R P i ++ dueIn R P i j) ∧ (∀ p ∈ tl, p.1 ≠ I) ∧ as.length ≤ 8 * i + j) rfl (by assumption) (small_one (by omega) (by omega) (by omega) (by omega)) (rangeSize_nat _ _) F N ⟨rfl, rfl, rfl, as, ca, tl, a2, x2, rfl, e2, by simpa [dueIn] using hDue, htI, by omega⟩ ?_ ?_ (by intro _ _; rfl)
          · clear F N hDue hal m1 m2 m3 htI e2 hvR
            clear hIl
            rintro j t₂ m₂ led₂ h₂ tk₂ I2 oI2 hj ⟨m1, m2, m3, as, ca, tl, a2, x2, rfl, e2, hDue, htI, hal⟩ hIl F₁ N₁
            replace F₁ := Fr.seen F₁ m1
            replace F₁ := Fr.seen (x := Str.ofString "places") (v := .ref Dp) F₁ m2
            replace F₁ := Fr.seen (x := Str.ofString "due") (v := .ref la) F₁ m3
            have hjn : i + 1 + j < R.length := by omega
            have h3J : (L + 1 + 1 + 1 : Nat) ≠ I2 := hIl _ (.head _)
            have hlaJ : la ≠ I2 := hIl _ (.tail _ (.head _))
            have h4J : (L + 1 + 1 + 1 + 1 : Nat) ≠ I2 := hIl _ (.tail _ (.tail _ (.head _)))
            have hIJ : I ≠ I2 := hIl _ (.tail _ (.tail _ (.tail _ (.head _))))
            have h1J : (L + 1 : Nat) ≠ I2 := hIl _ (.tail _ (.tail _ (.tail _ (.tail _ (.head _)))))
            have htJ : ∀ p ∈ tl, p.1 ≠ I2 := fun p hp => hIl p (.tail _ (.tail _ (.tail _ (.tail _ (.tail _ hp)))))
            replace N₁ := kst_newsOf (l' := (L + 1 + 1 + 1 + 1, a2) :: (L + 1 + 1 + 1, a1') :: (la, listOf as.toArray ca) :: (I2, oI2) :: (I, o) :: (L + 1, oR') :: tl) N₁ (by
              intro p hp; simp only [List.mem_cons] at hp ⊢
              rcases hp with q | q | q | q | q | q | q
              · exact .inr (.inr (.inr (.inl q)))
              · exact .inr (.inl q)
              · exact .inr (.inr (.inl q))
              · exact .inl q
              · exact .inr (.inr (.inr (.inr (.inl q))))
              · exact .inr (.inr (.inr (.inr (.inr (.inl q)))))
              · exact .inr (.inr (.inr (.inr (.inr (.inr q))))))
            refine set_cell F₁ N₁ e2 ?_ ?_
            · intro p hp
              simp only [List.mem_cons] at hp
              rcases hp with q | q | q | q | q | q
              · rw [q]; exact Nat.ne_of_lt (Nat.lt_succ_self _)
              · rw [q]; exact Ne.symm hla4
              · rw [q]; exact Ne.symm h4J
              · rw [q]; exact Ne.symm h4I
              · rw [q]; exact Nat.ne_of_lt (Nat.lt_succ_of_lt (Nat.lt_succ_of_lt (Nat.lt_succ_self _)))
              · exact (hDue.off p q).2.2
            intro h21 a2' F2 N2 e2'
            clear F₁ N₁
            dsimp only
            walk_at "gs"
            refine LCt.ListComp_T F2 rfl (by decide) rfl (by decide) rfl ?_ (by intro _; rfl)
            walk_at "gs"
            have hmP2 : (Dp, listOf zs.toArray zs.length) ∈ (L + 1 + 1 + 1 + 1, a2') :: (L + 1 + 1 + 1, a1') :: (la, listOf as.toArray ca) :: (I2, oI2) :: (I, o) :: (L + 1, oR') :: tl := .tail _ (.tail _ (.tail _ (.tail _ (.tail _ (.tail _ (hDue.base _ hmP))))))
            have hzl : zs.length = P.length := by rw [hzs.length, castL_length]
            refine LCt.CompSrcT.ledger rfl F2 N2 hmP2 (by rw [List.size_toArray, sizeLine_eq]; omega) ?_
            intro g22
            obtain ⟨B4, hB4⟩ : ∃ B4, B4 = (L + 1 + 1 + 1 + 1, a2') :: (L + 1 + 1 + 1, a1') :: (la, listOf as.toArray ca) :: (I2, oI2) :: (I, o) :: (L + 1, oR') :: tl := ⟨_, rfl⟩
            have hm3 : (L + 1 + 1 + 1, a1') ∈ B4 := by rw [hB4]; simp
            have hm4 : (L + 1 + 1 + 1 + 1, a2') ∈ B4 := by rw [hB4]; simp
            have hmP4 : (Dp, listOf zs.toArray zs.length) ∈ B4 := by rw [hB4]; exact hmP2
            refine compRestT_of (fun k us news => news = B4 ∧ IntsAre us (castL ((P.take k).filter (fun p => !decide (p = i ∨ p = i + 1 + j))))) ?_ ?_ _ 0 [] _ (Nat.zero_add _) ⟨by rw [hB4], .nil⟩
            · rintro k us news v I3 oI3 C3 oC3 D3 m₃ h tk E' hk ⟨rfl, hus⟩ hPv hns hm F4 N4 off hne
              have hk' : k < P.length := by rw [List.size_toArray] at hk; omega
              have hx : P[k]? = some (P.getD k 0) := by rw [List.getD_eq_getElem?_getD, List.getElem?_eq_getElem hk']; rfl
              generalize P.getD k 0 = x at hx
              obtain ⟨tv, hv⟩ := hzs.get k (x : Int) (by rw [castL, List.getElem?_map, hx]; rfl)
              have hv2 : v = .int (x : Int) tv := by
                have q : zs[k]? = some v := by simpa using hPv
                rw [hv] at q; exact (Option.some.inj q).symm
              subst hv2
              have hns' := hns.ns (N4 _ (.tail _ (.head _))).1
              refine wpAny_isTrue_Compare1 ?_
              refine nm_loc hns' hm ?_
              refine wpAny_Tuple ?_
              walk1
              refine nm_cell rfl (N4 (L + 1 + 1 + 1, a1') (by simp [hm3])).1 e1' ?_
              walk1
              refine nm_cell rfl (N4 (L + 1 + 1 + 1 + 1, a2') (by simp [hm4])).1 e2' ?_
              walk1
              refine ⟨by rw [sizeLine_eq]; simp only [List.length_cons, List.length_nil]; omega, ?_⟩
              refine notin_tuple_ints ⟨_, Heap.get?_push_size _ rfl, rfl, _, rfl⟩ (.cons _ _ (.cons _ _ .nil)) ?_
              refine wpAny_truthy_bool ?_
              rw [any_two]
              have hS : LCg.SrcAt (gh s.heap) Dp zs.toArray news := .inr ⟨_, hmP4, rfl, _, rfl⟩
              have F5 := F4.push { cls := .type "tuple", data := .seq #[.int (0 + (i : Int) * 1) t₁, .int (0 + (i : Int) * 1 + 1 + (j : Int) * 1) t₂] }
              have N5 := N4.grown (h' := h.push { cls := .type "tuple", data := .seq #[.int (0 + (i : Int) * 1) t₁, .int (0 + (i : Int) * 1 + 1 + (j : Int) * 1) t₂] }) fun b o q => Heap.get?_push_of_some _ q
              cases hb : (!decide (x = i ∨ x = i + 1 + j)) with
              | false =>
                rw [if_neg (by simp)]
                refine LCg.CompEnd.intro F5 N5 news (fun _ h => h) off hS ⟨rfl, ?_⟩
                rw [filt_succ P _ hx, hb, if_neg (by simp), List.append_nil]
                exact hus
              | true =>
                rw [if_pos rfl]
                refine nm_loc (hns.ns (N5 _ (.tail _ (.head _))).1) hm ?_
                refine LCg.CompEnd.intro F5 N5 news (fun _ h => h) off hS ⟨rfl, ?_⟩
                rw [filt_succ P _ hx, hb, if_pos rfl]
                exact ints_snoc hus _ _
            · rintro us news ⟨rfl, hus⟩
              intro D3 h23 tk23 F4 N4 off4
              rw [List.size_toArray, hzl, List.take_length] at hus
              clear F2 N2
              rw [hB4] at N4
              dsimp only
              walk_at "gs"
              rename Fr _ _ _ _ => F
              rename News _ _ _ _ => N
              refine eq_ints' (r := dueOk P i (i + 1 + j)) (N.isList (.tail _ (.head _))) (N.isList (.head _)) hus .nil (by show un + 3 + 64 < cLine; omega) (dueOk_cast _ _ _) ?_
              replace N := kst_newsOf (l' := (la, listOf as.toArray ca) :: (L + 1 + 1 + 1 + 1, a2') :: (L + 1 + 1 + 1, a1') :: (I2, oI2) :: (I, o) :: (L + 1, oR') :: tl) N (by
                intro p hp; simp only [List.mem_cons] at hp ⊢
                rcases hp with q | q | q | q | q | q | q
                · exact .inr (.inr (.inr (.inr (.inl q))))
                · exact .inr (.inr (.inl q))
                · exact .inr (.inr (.inr (.inl q)))
                · exact .inr (.inr (.inr (.inr (.inr (.inl q)))))
                · exact .inr (.inr (.inr (.inr (.inr (.inr (.inl q))))))
                · exact .inr (.inr (.inr (.inr (.inr (.inr (.inr (.inl q)))))))
                · exact .inr (.inr (.inr (.inr (.inr (.inr (.inr (.inr q))))))))
              have hIl' : ∀ as' ca' tl', (∀ p ∈ tl', p.1 ≠ I2) → ∀ p ∈ (L + 1 + 1 + 1, a1') :: (la, listOf as' ca') :: (L + 1 + 1 + 1 + 1, a2') :: (I, o) :: (L + 1, oR') :: tl', p.1 ≠ I2 := by
                intro as' ca' tl' ht p hp
                simp only [List.mem_cons] at hp
                rcases hp with q | q | q | q | q | q
                · rw [q]; exact h3J
                · rw [q]; exact hlaJ
                · rw [q]; exact h4J
                · rw [q]; exact hIJ
                · rw [q]; exact h1J
                · exact ht p q
              cases hok : dueOk P i (i + 1 + j) with
              | false =>
                dsimp only
                walk_at "gs"
                refine TE.mk' F (kst_newsOf (l' := (I2, oI2) :: (L + 1 + 1 + 1, a1') :: (la, listOf as.toArray ca) :: (L + 1 + 1 + 1 + 1, a2') :: (I, o) :: (L + 1, oR') :: tl) N ?_) (hIl' _ _ _ htJ) ⟨rfl, rfl, rfl, as, ca, tl, a2', _, rfl, e2', ?_, htI, by omega⟩
                · intro p hp; simp only [List.mem_cons] at hp ⊢
                  rcases hp with q | q | q | q | q | q | q
                  · exact .inr (.inr (.inr (.inl q)))
                  · exact .inr (.inr (.inl q))
                  · exact .inl q
                  · exact .inr (.inl q)
                  · exact .inr (.inr (.inr (.inr (.inl q))))
                  · exact .inr (.inr (.inr (.inr (.inr (.inl q)))))
                  · exact .inr (.inr (.inr (.inr (.inr (.inr q)))))
                · rw [dueIn, hok]
                  simpa using hDue
              | true =>
                dsimp only
                walk_at "gs"
                rename Fr _ _ _ _ => F
                rename News _ _ _ _ => N
                rename_i lu _ l1u
                obtain ⟨u1, u2, u3, u4, u5, u6, u7⟩ := l1u
                have eo : (0 + (i : Int) * 1) = (i : Int) := by omega
                have eo2 : ((i : Int) + 1 + (j : Int) * 1) = ((i + 1 + j : Nat) : Int) := by omega
                rw [eo, eo2] at N
                replace N := kst_newsOf (l' := (la, listOf as.toArray ca) :: (I2, oI2) :: (L + 1 + 1 + 1, a1') :: (L + 1 + 1 + 1 + 1, a2') :: (I, o) :: (L + 1, oR') :: ((lu, { cls := .type "tuple", data := .seq #[.int (i : Int) t₁, .int ((i + 1 + j : Nat) : Int) t₂, .ref lr] }) :: tl)) N (by
                  intro p hp; simp only [List.mem_cons] at hp ⊢
                  rcases hp with q | q | q | q | q | q | q | q
                  · exact .inr (.inl q)
                  · exact .inr (.inr (.inr (.inr (.inl q))))
                  · exact .inr (.inr (.inr (.inl q)))
                  · exact .inr (.inr (.inl q))
                  · exact .inr (.inr (.inr (.inr (.inr (.inl q)))))
                  · exact .inr (.inr (.inr (.inr (.inr (.inr (.inl q))))))
                  · exact .inl q
                  · exact .inr (.inr (.inr (.inr (.inr (.inr (.inr q)))))))
                refine append_K F N (Upd.head ?_) ?_ ?_
                · intro p hp
                  simp only [List.mem_cons] at hp
                  rcases hp with q | q | q | q | q | q | q
                  · rw [q]; exact Ne.symm hlaJ
                  · rw [q]; exact hla3
                  · rw [q]; exact hla4
                  · rw [q]; exact Ne.symm hlaI
                  · rw [q]; exact hla1
                  · rw [q]; exact Nat.ne_of_gt u1
                  · exact (hDue.off p q).1
                rotate_left
                · rw [List.size_toArray, sizeLine_eq]; omega
                intro h41 F41 N41
                clear F N
                rw [List.push_toArray] at N41
                dsimp only
                walk_at "gs"
                refine TE.mk' F41 (kst_newsOf (l' := (I2, oI2) :: (L + 1 + 1 + 1, a1') :: (la, listOf (as ++ [Value.ref lu]).toArray (ca + 1)) :: (L + 1 + 1 + 1 + 1, a2') :: (I, o) :: (L + 1, oR') :: ((lu, { cls := .type "tuple", data := .seq #[.int (i : Int) t₁, .int ((i + 1 + j : Nat) : Int) t₂, .ref lr] }) :: tl)) N41 ?_) (hIl' _ _ _ ?_) ⟨rfl, rfl, rfl, as ++ [Value.ref lu], ca + 1, _, a2', _, rfl, e2', ?_, ?_, by rw [List.length_append, List.length_singleton]; omega⟩
                · intro p hp; simp only [List.mem_cons] at hp ⊢
                  rcases hp with q | q | q | q | q | q | q
                  · exact .inr (.inl q)
                  · exact .inr (.inr (.inl q))
                  · exact .inl q
                  · exact .inr (.inr (.inr (.inl q)))
                  · exact .inr (.inr (.inr (.inr (.inl q))))
                  · exact .inr (.inr (.inr (.inr (.inr (.inl q)))))
                  · exact .inr (.inr (.inr (.inr (.inr (.inr q)))))
                · intro p hp
                  rcases List.mem_cons.mp hp with q | q
                  · rw [q]; exact Nat.ne_of_gt u4
                  · exact htJ p q
                · rw [dueIn, hok, if_pos rfl, ← List.append_assoc]
                  exact due_snoc hDue u1 u3 u2 hmr hi4
                · intro p hp
                  rcases List.mem_cons.mp hp with q | q
                  · rw [q]; exact Nat.ne_of_gt u5
                  · exact htI p q
          · rintro h₂ tk₂ m' led' F₁ N₁ ⟨m1, m2, m3, as, ca, tl, a2, x2, rfl, e2, hDue, htI, hal⟩
            have en : ((R.length : Int) - (0 + (i : Int) * 1 + 1)).toNat = R.length - 1 - i := by omega
            rw [en] at hDue hal
            dsimp only
            walk_at "gs"
            refine TE.mk' F₁ (kst_newsOf (l' := (I, o) :: (la, listOf as.toArray ca) :: (L + 1 + 1 + 1, a1') :: (L + 1 + 1 + 1 + 1, a2) :: (L + 1, oR') :: tl) N₁ ?_) ?_ ⟨m1, m2, m3, as, ca, tl, a1', a2, _, _, rfl, e1', e2, hDue, by omega⟩
            · intro p hp; simp only [List.mem_cons] at hp ⊢
              rcases hp with q | q | q | q | q | q
              · exact .inr (.inr (.inr (.inl q)))
              · exact .inr (.inl q)
              · exact .inl q
              · exact .inr (.inr (.inl q))
              · exact .inr (.inr (.inr (.inr (.inl q))))
              · exact .inr (.inr (.inr (.inr (.inr q))))
            · intro p hp
              simp only [List.mem_cons] at hp
              rcases hp with q | q | q | q | q
              · rw [q]; exact hlaI
              · rw [q]; exact h3I
              · rw [q]; exact h4I
              · rw [q]; exact h1I
              · exact htI p q
        · clear F N hDue
          rintro h tk m' led' F₁ N₁ ⟨m1, m2, m3, as, ca, tl, a1, a2, x1, x2, rfl, e1, e2, hDue, hal⟩
          replace F₁ := Fr.seen F₁ m1
          replace F₁ := Fr.seen (x := Str.ofString "due") (v := .ref la) F₁ m3
          have en : ((R.length : Int) - 0).toNat = R.length := by omega
          rw [en] at hDue hal
          replace N₁ := kst_newsOf (l' := (la, listOf as.toArray ca) :: (L + 1 + 1, oC') :: tl) N₁ (by
            intro p hp; simp only [List.mem_cons] at hp ⊢
            rcases hp with q | q | q
            · exact .inl q
            · exact .inr (.inr (.inr (.inr (by rw [q]; exact hDue.base _ hmC))))
            · exact .inr (.inr (.inr (.inr q))))
          dsimp only
          walk_at "gs"
          rename Fr _ _ _ _ => F
          rename News _ _ _ _ => N
          refine mended_c (W.keeps F.keep) (by omega) (by omega) (N (lc, listOf vc.toArray cc) (.tail _ (.tail _ (hDue.base _ hmc)))).1 hi5 (by omega) (by omega) (N (D, listOf ys.toArray ys.length) (.tail _ (.tail _ (hDue.base _ hmG)))).1 hys (gapsOf_length _ _) (fun j => hPow _ _ (by decide)) (fun i j => hPow _ _ (gapsOf_lt hPow _ _ _)) hov ?_
          intro lm h30 tk30 as30 hk30 hr30
          replace F := F.keeps hk30
          replace N := N.grown hk30
          dsimp only
          walk_at "gs"
          rw [hmath] at hr30
          obtain ⟨bs, rd⟩ := hDue.reads h30 F.keep fun p hp => (N p (.tail _ (.tail _ hp))).1
          have hr31 : ∃ bs, Reads h30 (.ref la) (.list (dueOut R P R.length)) bs := ⟨_, reads_list_at (N _ (.head _)).1 rfl rfl (by simpa using rd)⟩
          obtain ⟨bs', hr31⟩ := hr31
          refine eq_dataH hr30 hr31 (due_shaped _ _ _) (due_shaped _ _ _) (by show un + 3 + 64 < cLine; omega) ?_
          rw [SeqAt.eqv_refl _ (SeqAt.canLay_of_shaped (due_shaped _ _ _))]
          exact RP.ret ⟨rfl, fun b o hb e => F.keep _ _ (gh_get e hb), ps8, (N (39, tabObj ps8) (.tail _ (.tail _ (hDue.base _ hm39)))).1⟩
end
end Mine
namespace Mine
abbrev PP : Nat := 4374732215
def mulx (a : Nat) : Nat := if a.testBit 31 then (2 * a) ^^^ PP else 2 * a
theorem xc (a b : Nat) : a ^^^ (a ^^^ b) = b := by rw [← Nat.xor_assoc, Nat.xor_self, Nat.zero_xor]
theorem xz {a b : Nat} (h : a ^^^ b = 0) : a = b := by
  have := xc a b
  rw [h, Nat.xor_zero] at this; exact this
theorem tb2 (a i : Nat) : (2 * a).testBit (i + 1) = a.testBit i := by rw [Nat.testBit_succ]; congr 1; omega
theorem tb20 (a : Nat) : (2 * a).testBit 0 = false := by rw [Nat.testBit_zero]; simp
theorem two_xor (a b : Nat) : 2 * (a ^^^ b) = 2 * a ^^^ 2 * b := by
  apply Nat.eq_of_testBit_eq
  intro i
  cases i with
  | zero => rw [Nat.testBit_xor, tb20, tb20, tb20]; rfl
  | succ i => rw [Nat.testBit_xor, tb2, tb2, tb2, Nat.testBit_xor]
theorem mulx_xor (a b : Nat) : mulx (a ^^^ b) = mulx a ^^^ mulx b := by
  unfold mulx
  rw [Nat.testBit_xor, two_xor]
  cases a.testBit 31 <;> cases b.testBit 31 <;> simp only [Bool.xor_false, Bool.xor_true, Bool.not_false, Bool.not_true, Bool.false_eq_true, if_true, if_false]
  · rw [Nat.xor_assoc]
  · rw [Nat.xor_assoc, Nat.xor_assoc, Nat.xor_comm (2 * b)]
  · rw [Nat.xor_comm (2 * b), Nat.xor_assoc, xc]
theorem lt_of_bits {w k : Nat} (h : ∀ i, k ≤ i → w.testBit i = false) : w < 2 ^ k := Nat.lt_pow_two_of_testBit _ fun i hi => h i hi
theorem mulx_lt {a : Nat} (h : a < 2 ^ 32) : mulx a < 2 ^ 32 := by
  unfold mulx
  by_cases hb : a.testBit 31 = true
  · rw [if_pos hb]
    refine lt_of_bits fun i hi => ?_
    rw [Nat.testBit_xor]
    cases i with
    | zero => omega
    | succ i =>
      rw [tb2]
      by_cases e : i = 31
      · subst e; rw [hb]; decide
      · rw [Nat.testBit_lt_two_pow (Nat.lt_of_lt_of_le h (Nat.pow_le_pow_right (by decide) (by omega))), Nat.testBit_lt_two_pow (x := PP) (Nat.lt_of_lt_of_le (show PP < 2 ^ 33 by decide) (Nat.pow_le_pow_right (by decide) (by omega)))]
        rfl
  · rw [if_neg hb]
    refine lt_of_bits fun i hi => ?_
    cases i with
    | zero => omega
    | succ i =>
      rw [tb2]
      by_cases e : i = 31
      · subst e; exact Bool.eq_false_iff.mpr hb
      · exact Nat.testBit_lt_two_pow (Nat.lt_of_lt_of_le h (Nat.pow_le_pow_right (by decide) (by omega)))
theorem iter_lt {f : Nat → Nat} {k : Nat} (hf : ∀ a, a < k → f a < k) {a : Nat} (h : a < k) : ∀ j, iter f j a < k
  | 0 => h
  | j + 1 => hf _ (iter_lt hf h j)
theorem iter_xor {f : Nat → Nat} (hf : ∀ a b, f (a ^^^ b) = f a ^^^ f b) (a b : Nat) : ∀ j, iter f j (a ^^^ b) = iter f j a ^^^ iter f j b
  | 0 => rfl
  | j + 1 => by rw [iter, iter_xor hf a b j, hf]; rfl
theorem iter_add {α : Type} (f : α → α) (a : α) (i : Nat) : ∀ j, iter f (j + i) a = iter f j (iter f i a)
  | 0 => by rw [Nat.zero_add]; rfl
  | j + 1 => by rw [Nat.succ_add]; show f (iter f (j + i) a) = f _; rw [iter_add f a i j]
theorem iter_mul {α : Type} (f : α → α) (n : Nat) : ∀ j a, iter (iter f n) j a = iter f (j * n) a
  | 0, a => by rw [Nat.zero_mul]; rfl
  | j + 1, a => by
    show iter f n (iter (iter f n) j a) = _
    rw [iter_mul f n j a, ← iter_add]; congr 1; rw [Nat.succ_mul, Nat.add_comm]
theorem pow_xor (a b : Nat) : ∀ k, a * 2 ^ k ^^^ b * 2 ^ k = (a ^^^ b) * 2 ^ k
  | 0 => by simp
  | k + 1 => by
    have e : ∀ x, x * 2 ^ (k + 1) = 2 * (x * 2 ^ k) := fun x => by rw [Nat.pow_succ, ← Nat.mul_assoc, Nat.mul_comm]
    rw [e, e, e, ← two_xor, pow_xor a b k]
theorem red_iter {p : Nat} (hp : p < 2 ^ 32) : ∀ j, j ≤ 8 → red p j = iter mulx j p * 2 ^ (8 - j)
  | 0, _ => rfl
  | j + 1, hj => by
    have ih := red_iter hp j (by omega)
    have hm := iter_lt (fun a h => mulx_lt h) hp j
    rw [red, ih]
    show _ = mulx (iter mulx j p) * 2 ^ (8 - (j + 1))
    generalize iter mulx j p = m at *
    have e8 : 8 - j = (8 - (j + 1)) + 1 := by omega
    have e7 : 7 - j = 8 - (j + 1) := by omega
    rw [e7]
    generalize 8 - (j + 1) = q at *
    rw [e8]
    have e2 : m * 2 ^ (q + 1) = 2 * m * 2 ^ q := by rw [Nat.pow_succ, Nat.mul_comm (2 ^ q) 2, ← Nat.mul_assoc, Nat.mul_comm m 2]
    have e3 : m * 2 ^ (q + 1) / 2 ^ (q + 32) = m / 2 ^ 31 := by
      rw [show q + 32 = (q + 1) + 31 by omega, Nat.pow_add 2 (q + 1) 31, Nat.mul_comm m, Nat.mul_div_mul_left _ _ (Nat.two_pow_pos _)]
    rw [e3, e2]
    unfold mulx
    rw [Nat.testBit_eq_decide_div_mod_eq]
    by_cases hb : m / 2 ^ 31 % 2 = 1
    · rw [if_pos hb, if_pos (by simpa using hb), pow_xor]
    · rw [if_neg hb, if_neg (by simpa using hb)]
theorem powStep_eq {p : Nat} (hp : p < 2 ^ 32) : powStep p = iter mulx 8 p := by
  rw [powStep, red_iter hp 8 (Nat.le_refl _)]; simp
theorem powStep_lt {p : Nat} (hp : p < 2 ^ 32) : powStep p < 2 ^ 32 := by
  rw [powStep_eq hp]; exact iter_lt (fun a h => mulx_lt h) hp 8
theorem hPow (x j : Nat) (h : x < 2 ^ 32) : iter powStep j x < 2 ^ 32 := iter_lt (fun a h => powStep_lt h) h j
theorem powStep_iter {x : Nat} (h : x < 2 ^ 32) : ∀ j, iter powStep j x = iter mulx (j * 8) x
  | 0 => by rw [Nat.zero_mul]; rfl
  | j + 1 => by
    show powStep (iter powStep j x) = _
    rw [powStep_eq (hPow x j h), powStep_iter h j, ← iter_add]; congr 1; omega
end Mine

namespace Mine
theorem mir_bit (w : Nat) : ∀ j i, (mir w j).testBit i = (decide (i < j) && w.testBit (j - 1 - i))
  | 0, i => by simp [mir]
  | j + 1, i => by
    rw [mir]
    cases i with
    | zero =>
      rw [Nat.testBit_zero, Nat.testBit_eq_decide_div_mod_eq]
      have : (mir w j * 2 + w / 2 ^ j % 2) % 2 = w / 2 ^ j % 2 := by omega
      rw [this]; simp
    | succ i =>
      rw [Nat.testBit_succ]
      have : (mir w j * 2 + w / 2 ^ j % 2) / 2 = mir w j := by omega
      rw [this, mir_bit w j i]
      have e : j + 1 - 1 - (i + 1) = j - 1 - i := by omega
      rw [e]
      congr 1
      simp
theorem mirror_bit (w i : Nat) : (mirror w).testBit i = (decide (i < 32) && w.testBit (31 - i)) := mir_bit w 32 i
theorem mirror_lt' (w : Nat) : mirror w < 2 ^ 32 := lt_of_bits fun i hi => by rw [mirror_bit, decide_eq_false (by omega)]; rfl
theorem mirror_xor (a b : Nat) : mirror (a ^^^ b) = mirror a ^^^ mirror b := by
  apply Nat.eq_of_testBit_eq
  intro i
  rw [Nat.testBit_xor, mirror_bit, mirror_bit, mirror_bit, Nat.testBit_xor]
  cases decide (i < 32) <;> simp
theorem mirror_mirror {w : Nat} (h : w < 2 ^ 32) : mirror (mirror w) = w := by
  apply Nat.eq_of_testBit_eq
  intro i
  rw [mirror_bit, mirror_bit]
  by_cases hi : i < 32
  · rw [decide_eq_true hi, decide_eq_true (show 31 - i < 32 by omega)]
    have e : 31 - (31 - i) = i := by omega
    rw [e]; rfl
  · rw [decide_eq_false hi, Nat.testBit_lt_two_pow (x := w) (i := i) (Nat.lt_of_lt_of_le h (Nat.pow_le_pow_right (by decide) (by omega)))]; rfl
theorem crcStep_lt {c : Nat} (h : c < 2 ^ 32) : crcStep c < 2 ^ 32 := by
  unfold crcStep
  split
  · exact Nat.xor_lt_two_pow (by omega) (by decide)
  · omega
theorem two_mirror {c : Nat} (h : c < 2 ^ 32) : 2 * mirror c = mirror (c / 2) ^^^ (if c % 2 = 1 then 2 ^ 32 else 0) := by
  apply Nat.eq_of_testBit_eq
  intro i
  rw [Nat.testBit_xor, mirror_bit]
  have hz : (if c % 2 = 1 then 2 ^ 32 else 0 : Nat).testBit i = (decide (i = 32) && c.testBit 0) := by
    rw [Nat.testBit_zero]
    by_cases hc : c % 2 = 1
    · rw [if_pos hc, Nat.testBit_two_pow, decide_eq_true hc, Bool.and_true]
      congr 1; exact propext ⟨Eq.symm, Eq.symm⟩
    · rw [if_neg hc, Nat.zero_testBit, decide_eq_false hc, Bool.and_false]
  rw [hz]
  cases i with
  | zero =>
    rw [tb20]
    have : (c / 2).testBit 31 = false := Nat.testBit_lt_two_pow (by omega)
    simp [this]
  | succ i =>
    rw [tb2, mirror_bit]
    by_cases hi : i = 31
    · subst hi; simp
    · rw [decide_eq_false (show ¬ i + 1 = 32 by omega)]
      by_cases h32 : i < 32
      · rw [decide_eq_true h32, decide_eq_true (show i + 1 < 32 by omega), ← Nat.testBit_succ]
        have e : (31 - (i + 1)).succ = 31 - i := by omega
        rw [e]; simp
      · rw [decide_eq_false h32, decide_eq_false (show ¬ i + 1 < 32 by omega)]; rfl
theorem mirror_crc {c : Nat} (h : c < 2 ^ 32) : mirror (crcStep c) = mulx (mirror c) := by
  have h31 : (mirror c).testBit 31 = decide (c % 2 = 1) := by rw [mirror_bit, Nat.testBit_zero]; rfl
  unfold mulx crcStep
  rw [h31, two_mirror h]
  by_cases hc : c % 2 = 1
  · rw [if_pos hc, if_pos hc, if_pos (by simpa using hc), mirror_xor, Nat.xor_assoc]
    congr 1
  · rw [if_neg hc, if_neg hc, if_neg (by simpa using hc), Nat.xor_zero]
theorem gen_lt {c : Nat} (h : c < 2 ^ 32) : gen c < 2 ^ 32 := iter_lt (fun a h => crcStep_lt h) h 8
theorem mirror_iter {c : Nat} (h : c < 2 ^ 32) : ∀ j, mirror (iter crcStep j c) = iter mulx j (mirror c)
  | 0 => rfl
  | j + 1 => by show mirror (crcStep (iter crcStep j c)) = mulx _; rw [mirror_crc (iter_lt (fun a h => crcStep_lt h) h j), mirror_iter h j]
theorem mirror_gen {c : Nat} (h : c < 2 ^ 32) : mirror (gen c) = powStep (mirror c) := by
  rw [powStep_eq (mirror_lt' c)]; exact mirror_iter h 8
theorem sent_lt {c : Nat} (h : c < 2 ^ 32) (t : Nat) : sent c t < 2 ^ 32 := iter_lt (fun a h => gen_lt h) h t
theorem mirror_sent {c : Nat} (h : c < 2 ^ 32) : ∀ t, mirror (sent c t) = iter powStep t (mirror c)
  | 0 => rfl
  | t + 1 => by show mirror (gen (sent c t)) = powStep _; rw [mirror_gen (sent_lt h t), mirror_sent h t]
/-- linear on words -/
theorem T_xor {a b : Nat} (ha : a < 2 ^ 32) (hb : b < 2 ^ 32) (j : Nat) : iter powStep j (a ^^^ b) = iter powStep j a ^^^ iter powStep j b := by
  rw [powStep_iter (Nat.xor_lt_two_pow ha hb), powStep_iter ha, powStep_iter hb, iter_xor mulx_xor]
theorem T_zero (j : Nat) : iter powStep j 0 = 0 := by
  have := T_xor (a := 0) (b := 0) (by decide) (by decide) j
  rw [Nat.xor_self] at this
  rw [Nat.xor_self] at this; exact this
end Mine

namespace Mine
/-- multiplying by the polynomial n -/
def op (v : Nat) : Nat → Nat → Nat
  | 0, _ => 0
  | f + 1, n => (if n % 2 = 1 then v else 0) ^^^ mulx (op v f (n / 2))
theorem mulx_zero : mulx 0 = 0 := by decide
theorem op_zero (v : Nat) : ∀ f, op v f 0 = 0
  | 0 => rfl
  | f + 1 => by rw [op]; simp [op_zero v f, mulx_zero]
theorem div2_xor (a b : Nat) : (a ^^^ b) / 2 = a / 2 ^^^ b / 2 := by
  apply Nat.eq_of_testBit_eq
  intro i
  rw [← Nat.testBit_succ, Nat.testBit_xor, Nat.testBit_xor, Nat.testBit_succ, Nat.testBit_succ]
theorem mod2_xor (a b : Nat) : (a ^^^ b) % 2 = 1 ↔ ¬ (a % 2 = 1 ↔ b % 2 = 1) := by
  have := Nat.testBit_xor a b 0
  rw [Nat.testBit_zero, Nat.testBit_zero, Nat.testBit_zero] at this
  by_cases h1 : a % 2 = 1 <;> by_cases h2 : b % 2 = 1 <;> simp [h1, h2] at this ⊢ <;> omega
theorem op_xor (v : Nat) : ∀ f a b, op v f (a ^^^ b) = op v f a ^^^ op v f b
  | 0, _, _ => by simp [op]
  | f + 1, a, b => by
    rw [op, op, op, div2_xor, op_xor v f, mulx_xor]
    have e : (if (a ^^^ b) % 2 = 1 then v else 0) = (if a % 2 = 1 then v else 0) ^^^ (if b % 2 = 1 then v else 0) := by
      have := mod2_xor a b
      by_cases h1 : a % 2 = 1 <;> by_cases h2 : b % 2 = 1
      · rw [if_neg (by rw [this]; simp [h1, h2]), if_pos h1, if_pos h2, Nat.xor_self]
      · rw [if_pos (by rw [this]; simp [h1, h2]), if_pos h1, if_neg h2, Nat.xor_zero]
      · rw [if_pos (by rw [this]; simp [h1, h2]), if_neg h1, if_pos h2, Nat.zero_xor]
      · rw [if_neg (by rw [this]; simp [h1, h2]), if_neg h1, if_neg h2, Nat.xor_self]
    rw [e]
    ac_rfl
theorem op_fuel (v : Nat) : ∀ f n, n < 2 ^ f → op v (f + 1) n = op v f n
  | 0, n, h => by
    have : n = 0 := by omega
    subst this; rw [op_zero, op_zero]
  | f + 1, n, h => by
    rw [op, op_fuel v f (n / 2) (by rw [Nat.pow_succ] at h; omega)]; rfl
theorem op_vxor (u v : Nat) : ∀ f n, op (u ^^^ v) f n = op u f n ^^^ op v f n
  | 0, _ => by simp [op]
  | f + 1, n => by
    rw [op, op, op, op_vxor u v f, mulx_xor]
    by_cases h : n % 2 = 1
    · rw [if_pos h, if_pos h, if_pos h]; ac_rfl
    · rw [if_neg h, if_neg h, if_neg h]; simp
theorem op_lt {v : Nat} (hv : v < 2 ^ 32) : ∀ f n, op v f n < 2 ^ 32
  | 0, _ => by rw [op]; decide
  | f + 1, n => by
    rw [op]
    refine Nat.xor_lt_two_pow ?_ (mulx_lt (op_lt hv f _))
    split
    · exact hv
    · decide
abbrev opx (n v : Nat) : Nat := op v 40 n
theorem opx_one (v : Nat) : opx 1 v = v := by
  rw [opx, op]; simp [op_zero, mulx_zero]
theorem opx_even {n v : Nat} (h : n < 2 ^ 33) (he : n % 2 = 0) : opx n v = mulx (opx (n / 2) v) := by
  rw [opx, op, if_neg (by omega), Nat.zero_xor, ← op_fuel v 39 (n / 2) (by omega)]
theorem opx_two {n v : Nat} (h : n < 2 ^ 32) : opx (2 * n) v = mulx (opx n v) := by
  rw [opx_even (by omega) (by omega)]; congr 2; omega
/-- what agrees on the single bits agrees -/
theorem basis {f g : Nat → Nat} (hf : ∀ a b, a < 2 ^ 32 → b < 2 ^ 32 → f (a ^^^ b) = f a ^^^ f b) (hg : ∀ a b, a < 2 ^ 32 → b < 2 ^ 32 → g (a ^^^ b) = g a ^^^ g b) (h : ∀ i, i < 32 → f (2 ^ i) = g (2 ^ i)) : ∀ k, k ≤ 32 → ∀ v, v < 2 ^ k → f v = g v
  | 0, _, v, hv => by
    have : v = 0 := by omega
    subst this
    have a := hf 0 0 (by decide) (by decide)
    have b := hg 0 0 (by decide) (by decide)
    rw [Nat.xor_self, Nat.xor_self] at a b
    rw [a, b]
  | k + 1, hk, v, hv => by
    by_cases hs : v < 2 ^ k
    · exact basis hf hg h k (by omega) v hs
    · have hb : v.testBit k = true := by
        rw [Nat.testBit_eq_decide_div_mod_eq, decide_eq_true_eq]
        have : v / 2 ^ k = 1 := Nat.div_eq_of_lt_le (by omega) (by rw [Nat.pow_succ] at hv; omega)
        rw [this]
      have hw : v ^^^ 2 ^ k < 2 ^ k := lt_of_bits fun i hi => by
        rw [Nat.testBit_xor, Nat.testBit_two_pow]
        by_cases e : i = k
        · subst e; rw [hb]; simp
        · rw [Nat.testBit_lt_two_pow (Nat.lt_of_lt_of_le hv (Nat.pow_le_pow_right (by decide) (by omega))), decide_eq_false (Ne.symm e)]; rfl
      have hk32 : 2 ^ k < 2 ^ 32 := Nat.pow_lt_pow_right (by decide) (by omega)
      have e : v = (v ^^^ 2 ^ k) ^^^ 2 ^ k := by rw [Nat.xor_assoc, Nat.xor_self, Nat.xor_zero]
      rw [e, hf _ _ (by omega) hk32, hg _ _ (by omega) hk32, h k (by omega), basis hf hg h k (by omega) _ hw]
theorem opx_P_bits : ∀ i, i < 32 → opx PP (2 ^ i) = 0 := by decide +kernel
theorem opx_P {v : Nat} (hv : v < 2 ^ 32) : opx PP v = 0 :=
  basis (f := fun v => opx PP v) (g := fun _ => 0) (fun a b _ _ => op_vxor a b 40 PP) (fun _ _ _ _ => rfl) opx_P_bits 32 (Nat.le_refl _) v hv
theorem opx_mulx {n v : Nat} (hn : n < 2 ^ 32) (hv : v < 2 ^ 32) : opx (mulx n) v = mulx (opx n v) := by
  unfold mulx
  by_cases hb : n.testBit 31 = true
  · rw [if_pos hb, opx, op_xor]
    show opx (2 * n) v ^^^ opx PP v = _
    rw [opx_P hv, Nat.xor_zero, opx_two hn]; rfl
  · rw [if_neg hb, opx_two hn]; rfl
theorem opx_iter {v : Nat} (hv : v < 2 ^ 32) : ∀ j, opx (iter mulx j 1) v = iter mulx j v
  | 0 => opx_one v
  | j + 1 => by show opx (mulx (iter mulx j 1)) v = mulx _; rw [opx_mulx (iter_lt (fun a h => mulx_lt h) (by decide) j) hv, opx_iter hv j]
theorem opx_T {v : Nat} (hv : v < 2 ^ 32) (k : Nat) : opx (iter powStep k 1) v = iter powStep k v := by
  rw [powStep_iter (by decide), powStep_iter hv, opx_iter hv]
/-- halving, the inverse of mulx -/
theorem unmul {a : Nat} : (mulx a ^^^ (mulx a % 2 * PP)) / 2 = a := by
  unfold mulx
  by_cases hb : a.testBit 31 = true
  · rw [if_pos hb]
    have h1 : (2 * a ^^^ PP) % 2 = 1 := by rw [mod2_xor]; simp only [iff_iff_implies_and_implies]; intro h; have := h.2 (by decide); omega
    rw [h1, Nat.one_mul, Nat.xor_assoc, Nat.xor_self, Nat.xor_zero]; omega
  · rw [if_neg hb]
    have h1 : 2 * a % 2 = 0 := by omega
    rw [h1, Nat.zero_mul, Nat.xor_zero]; omega
theorem mulx_inj {a b : Nat} (h : mulx a = mulx b) : a = b := by
  rw [← unmul (a := a), h, unmul]
structure OvI (v : Nat) (o : Ov) : Prop where
  low : o.low < 2 ^ 33
  high : o.high < 2 ^ 33
  mine : o.mine = opx o.low v
  yours : o.yours = opx o.high v
theorem OvI.step {v : Nat} {o : Ov} (h : OvI v o) : OvI v (ovStep o) := by
  obtain ⟨a, b, c, d⟩ := h
  unfold ovStep
  by_cases he : o.low % 2 = 0
  · rw [if_pos he]
    refine ⟨?_, b, ?_, d⟩
    · show o.low / 2 < _; omega
    · show (o.mine ^^^ (o.mine % 2 * PP)) / 2 = opx (o.low / 2) v
      rw [c, opx_even a he, unmul]
  · rw [if_neg he]
    split
    · exact ⟨b, a, d, c⟩
    · refine ⟨Nat.xor_lt_two_pow a b, b, ?_, d⟩
      show o.mine ^^^ o.yours = opx (o.low ^^^ o.high) v
      rw [c, d]; exact (op_xor v 40 _ _).symm
theorem OvI.at {v y : Nat} (hv : v < 2 ^ 32) (hy : y < 2 ^ 32) : ∀ j, OvI v (ovAt (opx y v) y j)
  | 0 => ⟨Nat.lt_of_lt_of_le hy (by decide), by show PP < 2 ^ 33; decide, rfl, (opx_P hv).symm⟩
  | j + 1 => (OvI.at hv hy j).step
end Mine

namespace Mine
def invs : List Nat := [0, 3140311070, 690548721, 2788185386, 787596701, 2022499354, 824328717, 1565730423]
theorem inv_bits : ∀ d, d < 8 → 0 < d → ∀ i, i < 32 → opx (invs.getD d 0) (2 ^ i ^^^ iter mulx (d * 8) (2 ^ i)) = 2 ^ i := by decide +kernel
theorem inv_all {d : Nat} (h8 : d < 8) (h0 : 0 < d) {v : Nat} (hv : v < 2 ^ 32) : opx (invs.getD d 0) (v ^^^ iter mulx (d * 8) v) = v := by
  refine basis (f := fun v => opx (invs.getD d 0) (v ^^^ iter mulx (d * 8) v)) (g := fun v => v) (fun a b _ _ => ?_) (fun _ _ _ _ => rfl) (inv_bits d h8 h0) 32 (Nat.le_refl _) v hv
  show opx _ (a ^^^ b ^^^ iter mulx (d * 8) (a ^^^ b)) = _
  rw [iter_xor mulx_xor]
  have e : a ^^^ b ^^^ (iter mulx (d * 8) a ^^^ iter mulx (d * 8) b) = (a ^^^ iter mulx (d * 8) a) ^^^ (b ^^^ iter mulx (d * 8) b) := by ac_rfl
  rw [e]; exact op_vxor _ _ 40 _
theorem opx_v0 (n : Nat) : opx n 0 = 0 := by
  have := op_vxor 0 0 40 n
  rw [Nat.xor_self, Nat.xor_self] at this; exact this
theorem iter_inj {a b : Nat} : ∀ j, iter mulx j a = iter mulx j b → a = b
  | 0, h => h
  | j + 1, h => iter_inj j (mulx_inj h)
theorem D_inj' {i j v : Nat} (hij : i < j) (hj : j < 8) (hv : v < 2 ^ 32) (h : iter powStep i v ^^^ iter powStep j v = 0) : v = 0 := by
  rw [powStep_iter hv, powStep_iter hv] at h
  have e : j * 8 = i * 8 + (j - i) * 8 := by omega
  rw [e, iter_add, ← iter_xor mulx_xor] at h
  have z : v ^^^ iter mulx ((j - i) * 8) v = 0 := iter_inj (i * 8) (by
    rw [h]
    have := iter_xor mulx_xor 0 0 (i * 8)
    rw [Nat.xor_self, Nat.xor_self] at this; exact this.symm)
  have := inv_all (d := j - i) (by omega) (by omega) hv
  rw [z, opx_v0] at this; exact this.symm
theorem D_inj {i j v : Nat} (hij : i ≠ j) (hi : i < 8) (hj : j < 8) (hv : v < 2 ^ 32) (h : iter powStep i v ^^^ iter powStep j v = 0) : v = 0 := by
  rcases Nat.lt_or_gt_of_ne hij with q | q
  · exact D_inj' q hj hv h
  · exact D_inj' q hi hv (by rw [Nat.xor_comm]; exact h)
def lw : Nat → Nat → Nat → Bool
  | 0, lo, hi => Nat.beq lo 1
  | f + 1, lo, hi => cond (Nat.beq lo 1) true (cond (Nat.beq (lo % 2) 0) (lw f (lo / 2) hi) (cond (Nat.blt lo hi) (lw f hi lo) (lw f (lo ^^^ hi) hi)))
theorem iter_succ' {α : Type} (f : α → α) (a : α) (j : Nat) : iter f (j + 1) a = iter f j (f a) := iter_add f a 1 j
theorem lw_at : ∀ f (o : Ov), lw f o.low o.high = true → ∃ j, j ≤ f ∧ (iter ovStep j o).low = 1
  | 0, o, h => ⟨0, Nat.le_refl _, Nat.eq_of_beq_eq_true h⟩
  | f + 1, o, h => by
    rw [lw] at h
    cases h1 : Nat.beq o.low 1 with
    | true => exact ⟨0, Nat.zero_le _, Nat.eq_of_beq_eq_true h1⟩
    | false =>
      rw [h1] at h
      have key : lw f (ovStep o).low (ovStep o).high = true := by
        unfold ovStep
        cases h2 : Nat.beq (o.low % 2) 0 with
        | true =>
          rw [h2] at h
          rw [if_pos (Nat.eq_of_beq_eq_true h2)]; exact h
        | false =>
          rw [h2] at h
          rw [if_neg (Nat.ne_of_beq_eq_false h2)]
          cases h3 : Nat.blt o.low o.high with
          | true =>
            rw [h3] at h
            rw [if_pos (by rw [Nat.blt_eq] at h3; exact h3)]; exact h
          | false =>
            rw [h3] at h
            rw [if_neg (fun q => by rw [← Nat.blt_eq, h3] at q; cases q)]; exact h
      obtain ⟨j, hj, e⟩ := lw_at f (ovStep o) key
      exact ⟨j + 1, by omega, by rw [iter_succ']; exact e⟩
theorem lw_all : ∀ k, k < 8 → ∀ m, m < k → lw 299 (iter powStep k 1 ^^^ iter powStep m 1) PP = true := by decide +kernel
theorem ov_ind (x y : Nat) : ∀ j, (ovAt x y j).low = (ovAt 0 y j).low ∧ (ovAt x y j).high = (ovAt 0 y j).high
  | 0 => ⟨rfl, rfl⟩
  | j + 1 => by
    obtain ⟨a, b⟩ := ov_ind x y j
    show (ovStep (ovAt x y j)).low = (ovStep (ovAt 0 y j)).low ∧ (ovStep (ovAt x y j)).high = (ovStep (ovAt 0 y j)).high
    generalize ovAt x y j = p at *
    generalize ovAt 0 y j = q at *
    unfold ovStep
    rw [a, b]
    by_cases h1 : q.low % 2 = 0
    · rw [if_pos h1, if_pos h1]; exact ⟨rfl, rfl⟩
    · rw [if_neg h1, if_neg h1]
      by_cases h2 : q.low < q.high
      · rw [if_pos h2, if_pos h2]; exact ⟨rfl, rfl⟩
      · rw [if_neg h2, if_neg h2]; exact ⟨rfl, rfl⟩
theorem find_spec {p : Nat → Bool} {n j : Nat} (hj : j < n) (h : p j = true) : p (((List.range n).find? p).getD n) = true ∧ ∀ i, i < ((List.range n).find? p).getD n → p i = false := by
  cases e : (List.range n).find? p with
  | none => have := List.find?_eq_none.mp e j (List.mem_range.mpr hj); rw [h] at this; exact absurd rfl this
  | some k =>
    have := List.find?_range_eq_some.mp e
    exact ⟨this.1, fun i hi => by simpa using this.2.2 i hi⟩
end Mine

namespace Mine
theorem hov (x k m : Nat) (hmk : m < k) (hk : k < 8) : (ovAt x (iter powStep k 1 ^^^ iter powStep m 1) (ovN (iter powStep k 1 ^^^ iter powStep m 1))).low = 1 ∧ ∀ j < ovN (iter powStep k 1 ^^^ iter powStep m 1), (ovAt x (iter powStep k 1 ^^^ iter powStep m 1) j).low ≠ 1 := by
  have h := lw_all k hk m hmk
  generalize iter powStep k 1 ^^^ iter powStep m 1 = y at *
  obtain ⟨j, hj, e⟩ := lw_at 299 ⟨y, PP, 0, 0⟩ h
  obtain ⟨a, b⟩ := find_spec (p := fun j => (ovAt 0 y j).low == 1) (n := 300) (j := j) (by omega) (beq_iff_eq.mpr e)
  refine ⟨by rw [(ov_ind x y _).1]; exact beq_iff_eq.mp a, fun i hi => ?_⟩
  rw [(ov_ind x y _).1]
  have := b i hi
  intro q
  rw [q] at this; cases this
theorem overF_eq {v k m : Nat} (hv : v < 2 ^ 32) (hmk : m < k) (hk : k < 8) : overF (iter powStep k v ^^^ iter powStep m v) (iter powStep k 1 ^^^ iter powStep m 1) = v := by
  have hx : iter powStep k v ^^^ iter powStep m v = opx (iter powStep k 1 ^^^ iter powStep m 1) v := by
    rw [← opx_T hv, ← opx_T hv]; exact (op_xor v 40 _ _).symm
  unfold overF
  by_cases h0 : iter powStep k v ^^^ iter powStep m v = 0
  · rw [if_pos h0]; exact (D_inj (by omega) hk (by omega) hv h0).symm
  · rw [if_neg h0]
    have h1 := (hov (iter powStep k v ^^^ iter powStep m v) k m hmk hk).1
    have hy : iter powStep k 1 ^^^ iter powStep m 1 < 2 ^ 32 := Nat.xor_lt_two_pow (hPow _ _ (by decide)) (hPow _ _ (by decide))
    generalize iter powStep k 1 ^^^ iter powStep m 1 = y at *
    rw [hx] at h1 ⊢
    have := (OvI.at hv hy (ovN y)).mine
    rw [h1, opx_one] at this; exact this
/-- the words' sum, from the front -/
def tldL (t : Nat) : List Nat → Nat
  | [] => 0
  | b :: r => iter powStep (t * r.length) (mirror b) ^^^ tldL t r
theorem tldL_lt (t : Nat) : ∀ l, tldL t l < 2 ^ 32
  | [] => by rw [tldL]; decide
  | b :: r => Nat.xor_lt_two_pow (hPow _ _ (mirror_lt' _)) (tldL_lt t r)
theorem tldAt_drop (R : List Nat) (t : Nat) : ∀ p, p ≤ R.length → tldAt R t p ^^^ tldL t (R.drop p) = tldL t R
  | 0, _ => by rw [tldAt, Nat.zero_xor]; rfl
  | p + 1, h => by
    rw [← tldAt_drop R t p (by omega)]
    have e : R.drop p = R.getD p 0 :: R.drop (p + 1) := by
      rw [List.getD_eq_getElem?_getD, List.getElem?_eq_getElem (by omega)]; exact List.drop_eq_getElem_cons (by omega)
    rw [e, tldL, tldAt, List.length_drop]
    have e2 : R.length - 1 - p = R.length - (p + 1) := by omega
    rw [e2]
    ac_rfl
theorem tldAt_all (R : List Nat) (t : Nat) : tldAt R t R.length = tldL t R := by
  have := tldAt_drop R t R.length (Nat.le_refl _)
  rw [List.drop_length, tldL, Nat.xor_zero] at this; exact this
theorem horner (t : Nat) : ∀ (l : List Nat) (a : Nat), a < 2 ^ 32 → (∀ x ∈ l, x < 2 ^ 32) → mirror (l.foldl (lamStep t) a) = iter powStep (t * l.length) (mirror a) ^^^ tldL t l
  | [], a, _, _ => by rw [tldL, Nat.xor_zero]; rfl
  | b :: r, a, ha, hl => by
    have hb := hl b (.head _)
    have hs := sent_lt ha t
    rw [List.foldl_cons, horner t r (lamStep t a b) (show sent a t ^^^ b < 2 ^ 32 from Nat.xor_lt_two_pow hs hb) (fun x hx => hl x (.tail _ hx)), lamStep, mirror_xor, mirror_sent ha, T_xor (hPow _ _ (mirror_lt' _)) (mirror_lt' _), ← iter_add, tldL, List.length_cons]
    have e : t * r.length + t = t * (r.length + 1) := by rw [Nat.mul_add, Nat.mul_one]
    rw [e]; ac_rfl
theorem found_tld (C : List Nat) (t : Nat) (hC : ∀ x ∈ C, x < 2 ^ 32) (hn : 1 ≤ C.length) : mirror (foundN C t) = tldAt C t C.length := by
  rw [tldAt_all]
  cases C with
  | nil => exact absurd hn (by decide)
  | cons a r =>
    rw [tldL]
    exact horner t r a (hC a (.head _)) fun x hx => hC x (.tail _ hx)
end Mine

namespace Mine
def eAt (R C : List Nat) (p : Nat) : Nat := mirror (R.getD p 0) ^^^ mirror (C.getD p 0)
theorem eAt_lt (R C : List Nat) (p : Nat) : eAt R C p < 2 ^ 32 := Nat.xor_lt_two_pow (mirror_lt' _) (mirror_lt' _)
def sE (e : Nat → Nat) (n t : Nat) : Nat → Nat
  | 0 => 0
  | p + 1 => sE e n t p ^^^ iter powStep (t * (n - 1 - p)) (e p)
theorem tld_sE (R C : List Nat) (hl : C.length = R.length) (t : Nat) : ∀ p, tldAt R t p ^^^ tldAt C t p = sE (eAt R C) R.length t p
  | 0 => by rw [tldAt, tldAt, sE, Nat.xor_self]
  | p + 1 => by
    rw [tldAt, tldAt, sE, ← tld_sE R C hl t p, hl, eAt, T_xor (mirror_lt' _) (mirror_lt' _)]
    ac_rfl
theorem sE_two {e : Nat → Nat} {n t a b : Nat} (hab : a ≠ b) (he : ∀ p, p ≠ a → p ≠ b → e p = 0) : ∀ p, sE e n t p = (if a < p then iter powStep (t * (n - 1 - a)) (e a) else 0) ^^^ (if b < p then iter powStep (t * (n - 1 - b)) (e b) else 0)
  | 0 => by rw [sE, if_neg (by omega), if_neg (by omega)]; rfl
  | p + 1 => by
    rw [sE, sE_two hab he p]
    by_cases h1 : p = a
    · subst h1
      rw [if_neg (Nat.lt_irrefl _), if_pos (Nat.lt_succ_self _), Nat.zero_xor, Nat.xor_comm]
      by_cases h2 : b < p
      · rw [if_pos h2, if_pos (by omega)]
      · rw [if_neg h2, if_neg (by omega)]
    · by_cases h2 : p = b
      · subst h2
        rw [if_neg (Nat.lt_irrefl p), if_pos (Nat.lt_succ_self p), Nat.xor_zero]
        by_cases h3 : a < p
        · rw [if_pos h3, if_pos (by omega)]
        · rw [if_neg h3, if_neg (by omega)]
      · rw [he p h1 h2, T_zero, Nat.xor_zero]
        have q1 : (a < p + 1) = (a < p) := propext ⟨fun h => by omega, fun h => by omega⟩
        have q2 : (b < p + 1) = (b < p) := propext ⟨fun h => by omega, fun h => by omega⟩
        simp only [q1, q2]
theorem gap_two {R C : List Nat} (hl : C.length = R.length) (hC : ∀ x ∈ C, x < 2 ^ 32) (hn : 1 ≤ C.length) {a b : Nat} (hab : a ≠ b) (ha : a < R.length) (hb : b < R.length) (he : ∀ p, p ≠ a → p ≠ b → eAt R C p = 0) {t : Nat} (ht : t < 4) :
    (gapsOf R C).getD t 0 = iter powStep (t * (R.length - 1 - a)) (eAt R C a) ^^^ iter powStep (t * (R.length - 1 - b)) (eAt R C b) := by
  rw [List.getD_eq_getElem?_getD, gapsOf_get R C ht]
  show tldAt R t R.length ^^^ mirror (foundN C t) = _
  rw [found_tld C t hC hn, hl, tld_sE R C hl, sE_two hab he, if_pos ha, if_pos hb]
/-- the locator at k, from K and M -/
def loc (K M k v : Nat) : Nat := iter powStep k (iter powStep k v ^^^ iter powStep M v) ^^^ iter powStep K (iter powStep k v ^^^ iter powStep M v)
theorem T_add (i j v : Nat) : iter powStep i (iter powStep j v) = iter powStep (i + j) v := (iter_add powStep v j i).symm
theorem loc_eq {K M k v : Nat} (hv : v < 2 ^ 32) : loc K M k v = iter powStep (k + k) v ^^^ iter powStep (k + M) v ^^^ (iter powStep (K + k) v ^^^ iter powStep (K + M) v) := by
  rw [loc, T_xor (hPow _ _ hv) (hPow _ _ hv), T_xor (hPow _ _ hv) (hPow _ _ hv), T_add, T_add, T_add, T_add]
theorem loc_lt {K M k v : Nat} (hv : v < 2 ^ 32) : loc K M k v < 2 ^ 32 := by
  have h : iter powStep k v ^^^ iter powStep M v < 2 ^ 32 := Nat.xor_lt_two_pow (hPow _ _ hv) (hPow _ _ hv)
  exact Nat.xor_lt_two_pow (hPow _ _ h) (hPow _ _ h)
theorem loc_T {K M k v : Nat} (hv : v < 2 ^ 32) (j : Nat) : loc K M k (iter powStep j v) = iter powStep j (loc K M k v) := by
  have l := fun i => hPow v i hv
  rw [loc_eq (hPow v j hv), loc_eq hv, T_xor (Nat.xor_lt_two_pow (l _) (l _)) (Nat.xor_lt_two_pow (l _) (l _)), T_xor (l _) (l _), T_xor (l _) (l _)]
  simp only [T_add]
  rw [Nat.add_comm j (k + k), Nat.add_comm j (k + M), Nat.add_comm j (K + k), Nat.add_comm j (K + M)]
theorem loc_zero {K M k v : Nat} (hv : v < 2 ^ 32) (hk : k < 8) (hK : K < 8) (hM : M < 8) : loc K M k v = 0 ↔ (k = K ∨ k = M ∨ v = 0) := by
  have h1 : iter powStep k v ^^^ iter powStep M v < 2 ^ 32 := Nat.xor_lt_two_pow (hPow _ _ hv) (hPow _ _ hv)
  refine ⟨fun h => ?_, fun h => ?_⟩
  · by_cases e : k = K
    · exact .inl e
    by_cases e2 : k = M
    · exact .inr (.inl e2)
    · exact .inr (.inr (D_inj e2 hk hM hv (D_inj e hk hK h1 h)))
  · rcases h with e | e | e
    · subst e; rw [loc, Nat.xor_self]
    · subst e; rw [loc, Nat.xor_self, T_zero, T_zero]; rfl
    · subst e; rw [loc, T_zero, T_zero, Nat.xor_self, T_zero, T_zero]; rfl
theorem comp1 {K M k v : Nat} (hv : v < 2 ^ 32) : iter powStep K (iter powStep k v) ^^^ iter powStep M (iter powStep k v) ^^^ iter powStep (K + M) v ^^^ iter powStep (2 * k) v = loc K M k v := by
  rw [loc_eq hv, T_add, T_add, Nat.add_comm M k, show 2 * k = k + k by omega]
  ac_rfl
theorem cond1 {K M ka kb u v g0 g1 g2 : Nat} (hu : u < 2 ^ 32) (hv : v < 2 ^ 32) (h0 : g0 = u ^^^ v) (h1 : g1 = iter powStep ka u ^^^ iter powStep kb v) (h2 : g2 = iter powStep (2 * ka) u ^^^ iter powStep (2 * kb) v) :
    iter powStep K g1 ^^^ iter powStep M g1 ^^^ iter powStep (K + M) g0 ^^^ g2 = loc K M ka u ^^^ loc K M kb v := by
  have lu := fun i => hPow u i hu
  have lv := fun i => hPow v i hv
  rw [← comp1 hu, ← comp1 hv, h0, h1, h2, T_xor (lu _) (lv _), T_xor (lu _) (lv _), T_xor hu hv]
  ac_rfl
theorem both_zero {K M ka kb u v : Nat} (hu : u < 2 ^ 32) (hv : v < 2 ^ 32) (hab : ka ≠ kb) (ha : ka < 8) (hb : kb < 8) : (loc K M ka u ^^^ loc K M kb v = 0 ∧ loc K M ka (iter powStep ka u) ^^^ loc K M kb (iter powStep kb v) = 0) ↔ (loc K M ka u = 0 ∧ loc K M kb v = 0) := by
  refine ⟨fun ⟨h1, h2⟩ => ?_, fun ⟨h1, h2⟩ => ?_⟩
  · have e := xz h1
    rw [loc_T hu, loc_T hv, ← e] at h2
    have z := D_inj hab ha hb (loc_lt hu) h2
    exact ⟨z, by rw [← e]; exact z⟩
  · rw [loc_T hu, loc_T hv, h1, h2, T_zero, T_zero]; exact ⟨rfl, rfl⟩
theorem xeq {a b : Nat} : a = b ↔ a ^^^ b = 0 := ⟨fun h => by rw [h, Nat.xor_self], xz⟩
theorem okPair_iff {R C : List Nat} (hl : C.length = R.length) (hC : ∀ x ∈ C, x < 2 ^ 32) (hn : 1 ≤ C.length) (hn8 : R.length ≤ 8) {a b : Nat} (hab : a ≠ b) (ha : a < R.length) (hb : b < R.length) (he : ∀ p, p ≠ a → p ≠ b → eAt R C p = 0) {one other : Nat} (h1 : one < R.length) (h2 : other < R.length) :
    okPair (gapsOf R C) C.length one other = true ↔ ((a = one ∨ a = other ∨ eAt R C a = 0) ∧ (b = one ∨ b = other ∨ eAt R C b = 0)) := by
  have g : ∀ t, t < 4 → _ := fun t ht => gap_two hl hC hn hab ha hb he (t := t) ht
  have g0 := g 0 (by omega)
  have g1 := g 1 (by omega)
  have g2 := g 2 (by omega)
  have g3 := g 3 (by omega)
  have eG : castL ((gapsOf R C).drop 2) = [(((gapsOf R C).getD 2 0 : Nat) : Int), (((gapsOf R C).getD 3 0 : Nat) : Int)] := rfl
  have hu := eAt_lt R C a
  have hv := eAt_lt R C b
  rw [okPair, decide_eq_true_eq, eG, hl]
  show [((iter powStep (R.length - 1 - one) ((gapsOf R C).getD 1 0) ^^^ iter powStep (R.length - 1 - other) ((gapsOf R C).getD 1 0) ^^^ iter powStep (R.length - 1 - one + (R.length - 1 - other)) ((gapsOf R C).getD 0 0) : Nat) : Int), ((iter powStep (R.length - 1 - one) ((gapsOf R C).getD 2 0) ^^^ iter powStep (R.length - 1 - other) ((gapsOf R C).getD 2 0) ^^^ iter powStep (R.length - 1 - one + (R.length - 1 - other)) ((gapsOf R C).getD 1 0) : Nat) : Int)] = _ ↔ _
  simp only [List.cons.injEq, and_true, Int.ofNat_inj]
  generalize (gapsOf R C).getD 0 0 = G0 at *
  generalize (gapsOf R C).getD 1 0 = G1 at *
  generalize (gapsOf R C).getD 2 0 = G2 at *
  generalize (gapsOf R C).getD 3 0 = G3 at *
  have ka : R.length - 1 - a < 8 := by omega
  have kb : R.length - 1 - b < 8 := by omega
  have kab : R.length - 1 - a ≠ R.length - 1 - b := by omega
  have q1 : (a = one) = (R.length - 1 - a = R.length - 1 - one) := propext ⟨fun h => by omega, fun h => by omega⟩
  have q2 : (a = other) = (R.length - 1 - a = R.length - 1 - other) := propext ⟨fun h => by omega, fun h => by omega⟩
  have q3 : (b = one) = (R.length - 1 - b = R.length - 1 - one) := propext ⟨fun h => by omega, fun h => by omega⟩
  have q4 : (b = other) = (R.length - 1 - b = R.length - 1 - other) := propext ⟨fun h => by omega, fun h => by omega⟩
  rw [q1, q2, q3, q4]
  have hK : R.length - 1 - one < 8 := by omega
  have hM : R.length - 1 - other < 8 := by omega
  rw [Nat.zero_mul, Nat.zero_mul] at g0
  rw [Nat.one_mul, Nat.one_mul] at g1
  generalize R.length - 1 - one = K at *
  generalize R.length - 1 - other = M at *
  generalize R.length - 1 - a = k at *
  generalize R.length - 1 - b = m at *
  generalize eAt R C a = u at *
  generalize eAt R C b = v at *
  have c1 := cond1 (K := K) (M := M) hu hv g0 g1 g2
  have c2 := cond1 (K := K) (M := M) (ka := k) (kb := m) (g0 := G1) (g1 := G2) (g2 := G3) (hPow u k hu) (hPow v m hv) g1 (by rw [g2, T_add, T_add, show k + k = 2 * k by omega, show m + m = 2 * m by omega]) (by rw [g3, T_add, T_add, show 2 * k + k = 3 * k by omega, show 2 * m + m = 3 * m by omega])
  rw [xeq (b := G2), xeq (b := G3), c1, c2, both_zero hu hv kab ka kb, loc_zero hu ka hK hM, loc_zero hv kb hK hM]
theorem mirror_inj {a b : Nat} (ha : a < 2 ^ 32) (hb : b < 2 ^ 32) (h : mirror a = mirror b) : a = b := by
  rw [← mirror_mirror ha, h, mirror_mirror hb]
theorem getD_lt {R : List Nat} (h : ∀ x ∈ R, x < 2 ^ 32) (p : Nat) : R.getD p 0 < 2 ^ 32 := by
  rw [List.getD_eq_getElem?_getD]
  cases e : R[p]? with
  | none => decide
  | some x => exact h x (List.mem_of_getElem? e)
theorem eAt_zero {R C : List Nat} (hR : ∀ x ∈ R, x < 2 ^ 32) (hC : ∀ x ∈ C, x < 2 ^ 32) {p : Nat} : eAt R C p = 0 ↔ C.getD p 0 = R.getD p 0 := by
  rw [eAt, ← xeq]
  exact ⟨fun h => (mirror_inj (getD_lt hR p) (getD_lt hC p) h).symm, fun h => by rw [h]⟩
theorem dueOk_iff {R C : List Nat} (n one other : Nat) : dueOk (placesOf R C n) one other = true ↔ ∀ p, p < n → C.getD p 0 ≠ R.getD p 0 → p = one ∨ p = other := by
  rw [dueOk, decide_eq_true_eq, List.filter_eq_nil_iff]
  refine ⟨fun h p hp hne => ?_, fun h p hp => ?_⟩
  · have := h p (List.mem_filter.mpr ⟨List.mem_range.mpr hp, by rw [decide_eq_true_eq]; exact hne⟩)
    by_cases q : p = one ∨ p = other
    · exact q
    · rw [decide_eq_false q] at this; exact absurd rfl this
  · obtain ⟨h1, h2⟩ := List.mem_filter.mp hp
    have := h p (List.mem_range.mp h1) (of_decide_eq_true h2)
    rw [decide_eq_true this]; decide
theorem ok_eq {R C : List Nat} (hl : C.length = R.length) (hR : ∀ x ∈ R, x < 2 ^ 32) (hC : ∀ x ∈ C, x < 2 ^ 32) (hn : 1 ≤ C.length) (hn8 : R.length ≤ 8) {a b : Nat} (hab : a ≠ b) (ha : a < R.length) (hb : b < R.length) (he : ∀ p, p ≠ a → p ≠ b → C.getD p 0 = R.getD p 0) {one other : Nat} (h1 : one < R.length) (h2 : other < R.length) :
    okPair (gapsOf R C) C.length one other = dueOk (placesOf R C R.length) one other := by
  rw [Bool.eq_iff_iff, okPair_iff hl hC hn hn8 hab ha hb (fun p q r => (eAt_zero hR hC).mpr (he p q r)) h1 h2, dueOk_iff, eAt_zero hR hC, eAt_zero hR hC]
  refine ⟨fun ⟨x, y⟩ p hp hne => ?_, fun h => ⟨?_, ?_⟩⟩
  · by_cases e1 : p = a
    · subst e1
      rcases x with x | x | x
      · exact .inl x
      · exact .inr x
      · exact absurd x hne
    · by_cases e2 : p = b
      · subst e2
        rcases y with x | x | x
        · exact .inl x
        · exact .inr x
        · exact absurd x hne
      · exact absurd (he p e1 e2) hne
  · by_cases q : C.getD a 0 = R.getD a 0
    · exact .inr (.inr q)
    · exact (h a ha q).imp id .inl
  · by_cases q : C.getD b 0 = R.getD b 0
    · exact .inr (.inr q)
    · exact (h b hb q).imp id .inl
theorem mend_eq {R C : List Nat} (hl : C.length = R.length) (hR : ∀ x ∈ R, x < 2 ^ 32) (hC : ∀ x ∈ C, x < 2 ^ 32) (hn : 1 ≤ C.length) (hn8 : R.length ≤ 8) {one other : Nat} (hoo : one < other) (h2 : other < R.length) (he : ∀ p, p ≠ one → p ≠ other → C.getD p 0 = R.getD p 0) :
    mendRow C (gapsOf R C) one other = R := by
  have hz : ∀ p, p ≠ one → p ≠ other → eAt R C p = 0 := fun p q r => (eAt_zero hR hC).mpr (he p q r)
  have g0 := gap_two hl hC hn (Nat.ne_of_lt hoo) (by omega) h2 hz (t := 0) (by omega)
  have g1 := gap_two hl hC hn (Nat.ne_of_lt hoo) (by omega) h2 hz (t := 1) (by omega)
  rw [Nat.zero_mul, Nat.zero_mul] at g0
  rw [Nat.one_mul, Nat.one_mul] at g1
  have hu := eAt_lt R C one
  have hv := eAt_lt R C other
  have hc : chgOf (gapsOf R C) C.length one other = eAt R C other := by
    unfold chgOf
    show overF ((gapsOf R C).getD 1 0 ^^^ iter powStep (C.length - 1 - one) ((gapsOf R C).getD 0 0)) _ = _
    rw [g1, g0, hl]
    show overF (_ ^^^ iter powStep (R.length - 1 - one) (eAt R C one ^^^ eAt R C other)) _ = _
    rw [T_xor hu hv]
    have e : iter powStep (R.length - 1 - one) (eAt R C one) ^^^ iter powStep (R.length - 1 - other) (eAt R C other) ^^^ (iter powStep (R.length - 1 - one) (eAt R C one) ^^^ iter powStep (R.length - 1 - one) (eAt R C other)) = iter powStep (R.length - 1 - one) (eAt R C other) ^^^ iter powStep (R.length - 1 - other) (eAt R C other) := by
      rw [Nat.xor_assoc, Nat.xor_comm (iter powStep (R.length - 1 - other) (eAt R C other)), Nat.xor_assoc, xc]
    rw [e, overF_eq hv (by omega) (by omega)]
  have back : ∀ p, C.getD p 0 ^^^ mirror (eAt R C p) = R.getD p 0 := fun p => by
    rw [eAt, mirror_xor, mirror_mirror (getD_lt hR p), mirror_mirror (getD_lt hC p), Nat.xor_comm (R.getD p 0), xc]
  have e0 : (gapsOf R C).getD 0 0 ^^^ eAt R C other = eAt R C one := by
    rw [g0]; show eAt R C one ^^^ eAt R C other ^^^ eAt R C other = _
    rw [Nat.xor_assoc, Nat.xor_self, Nat.xor_zero]
  unfold mendRow
  simp only [hc, e0, back]
  have e1 : (C.set one (R.getD one 0)).getD other 0 = C.getD other 0 := by
    rw [List.getD_eq_getElem?_getD, List.getElem?_set_ne (Nat.ne_of_lt hoo), ← List.getD_eq_getElem?_getD]
  rw [e1, back]
  refine List.ext_getElem? fun i => ?_
  by_cases hi : i < R.length
  · have hR' : R[i]? = some (R.getD i 0) := by rw [List.getD_eq_getElem?_getD, List.getElem?_eq_getElem hi]; rfl
    have hC' : C[i]? = some (C.getD i 0) := by rw [List.getD_eq_getElem?_getD, List.getElem?_eq_getElem (by omega)]; rfl
    rw [hR']
    by_cases q1 : other = i
    · subst q1; rw [List.getElem?_set_self (by rw [List.length_set]; omega)]
    · rw [List.getElem?_set_ne q1]
      by_cases q2 : one = i
      · subst q2; rw [List.getElem?_set_self (by omega)]
      · rw [List.getElem?_set_ne q2, hC', he i (Ne.symm q2) (Ne.symm q1)]
  · rw [List.getElem?_eq_none (l := R) (by omega), List.getElem?_eq_none (by rw [List.length_set, List.length_set]; omega)]
theorem inner_eq {R C G P : List Nat} (hl : C.length = R.length) (hok : ∀ one other, one < other → other < R.length → okPair G C.length one other = dueOk P one other) (hm : ∀ one other, one < other → other < R.length → dueOk P one other = true → mendRow C G one other = R) (one : Nat) : ∀ j, one + 1 + j ≤ R.length → innerD C G one j = dueIn R P one j
  | 0, _ => rfl
  | j + 1, h => by
    rw [innerD, dueIn, inner_eq hl hok hm one j (by omega), hok one (one + 1 + j) (by omega) (by omega)]
    cases e : dueOk P one (one + 1 + j) with
    | false => rfl
    | true => rw [hm one (one + 1 + j) (by omega) (by omega) e]
theorem outer_eq {R C G P : List Nat} (hl : C.length = R.length) (hok : ∀ one other, one < other → other < R.length → okPair G C.length one other = dueOk P one other) (hm : ∀ one other, one < other → other < R.length → dueOk P one other = true → mendRow C G one other = R) : ∀ i, i ≤ R.length → outerD C G i = dueOut R P i
  | 0, _ => rfl
  | i + 1, h => by rw [outerD, dueOut, outer_eq hl hok hm i (by omega), hl, inner_eq hl hok hm i _ (by omega)]
theorem math {R C : List Nat} (hl : C.length = R.length) (hR : ∀ x ∈ R, x < 2 ^ 32) (hC : ∀ x ∈ C, x < 2 ^ 32) (hn : 1 ≤ C.length) (hn8 : R.length ≤ 8) {a b : Nat} (hab : a ≠ b) (ha : a < R.length) (hb : b < R.length) (he : ∀ p, p ≠ a → p ≠ b → C.getD p 0 = R.getD p 0) :
    outerD C (gapsOf R C) C.length = dueOut R (placesOf R C R.length) R.length := by
  rw [hl]
  refine outer_eq hl (fun one other h1 h2 => ok_eq hl hR hC hn hn8 hab ha hb he (by omega) h2) (fun one other h1 h2 h3 => mend_eq hl hR hC hn hn8 h1 h2 fun p q1 q2 => ?_) _ (Nat.le_refl _)
  by_cases hp : p < R.length
  · by_cases e : C.getD p 0 = R.getD p 0
    · exact e
    · rcases (dueOk_iff _ _ _).mp h3 p hp e with z | z
      · exact absurd z q1
      · exact absurd z q2
  · rw [List.getD_eq_getElem?_getD, List.getD_eq_getElem?_getD, List.getElem?_eq_none (by omega), List.getElem?_eq_none (by omega)]
theorem chg_far (n : Nat) (R : List Nat) (x : Int) (p : Nat) (h : p ≠ (x.fmod n).toNat) : (chg n R x).getD p 0 = R.getD p 0 := by
  rw [chg, List.getD_eq_getElem?_getD, List.getElem?_set_ne (Ne.symm h), ← List.getD_eq_getElem?_getD]
theorem chg_words (n : Nat) {R : List Nat} (hR : ∀ x ∈ R, x < 2 ^ 32) (x : Int) : ∀ y ∈ chg n R x, y < 2 ^ 32 := fun y hy => by
  rcases List.mem_or_eq_of_mem_set hy with h | h
  · exact hR y h
  · rw [h]
    refine Nat.xor_lt_two_pow (getD_lt hR _) ?_
    have h0 : 0 ≤ (x.fdiv n).fmod (2 ^ 32) := Int.fmod_nonneg_of_pos _ (by decide)
    have h1 : (x.fdiv n).fmod (2 ^ 32) < 2 ^ 32 := Int.fmod_lt_of_pos _ (by decide)
    omega
theorem rowOf_words (S : List Int) : ∀ x ∈ rowOf S, x < 2 ^ 32 := fun x hx => by
  rcases List.mem_append.mp hx with h | h
  · simp only [List.mem_cons, List.not_mem_nil, or_false] at h
    rcases h with h | h | h <;> rw [h] <;> decide
  · obtain ⟨y, _, rfl⟩ := List.mem_map.mp h
    have h0 : 0 ≤ y.fmod (2 ^ 32) := Int.fmod_nonneg_of_pos _ (by decide)
    have h1 : y.fmod (2 ^ 32) < 2 ^ 32 := Int.fmod_lt_of_pos _ (by decide)
    show (y.fmod (2 ^ 32)).toNat < _
    omega
theorem fmod_idx (x : Int) {n : Nat} (hn : 0 < n) : (x.fmod n).toNat < n := by
  have h0 : 0 ≤ x.fmod n := Int.fmod_nonneg_of_pos _ (by omega)
  have h1 : x.fmod n < n := Int.fmod_lt_of_pos _ (by omega)
  omega
theorem hmath (S : List Int) : outerD (changedL (rowOf S) S) (gapsOf (rowOf S) (changedL (rowOf S) S)) (changedL (rowOf S) S).length = dueOut (rowOf S) (placesOf (rowOf S) (changedL (rowOf S) S) (rowOf S).length) (rowOf S).length := by
  have hR := rowOf_words S
  obtain ⟨h3, h8⟩ := rowOf_length S
  generalize rowOf S = R at *
  obtain ⟨x, y, hxy⟩ : ∃ x y, twoOf S = [x, y] := by
    have := twoOf_length S
    match twoOf S, this with
    | [x, y], _ => exact ⟨x, y, rfl⟩
  have hC : changedL R S = chg R.length (chg R.length R x) y := by rw [changedL, hxy]; rfl
  have hl : (changedL R S).length = R.length := by rw [changedL, chgs_length]
  have hw : ∀ z ∈ changedL R S, z < 2 ^ 32 := by rw [hC]; exact chg_words _ (chg_words _ hR x) y
  have hfar : ∀ p, p ≠ (x.fmod R.length).toNat → p ≠ (y.fmod R.length).toNat → (changedL R S).getD p 0 = R.getD p 0 := fun p q1 q2 => by
    rw [hC, chg_far _ _ _ _ q2, chg_far _ _ _ _ q1]
  have hx := fmod_idx x (n := R.length) (by omega)
  have hy := fmod_idx y (n := R.length) (by omega)
  generalize (x.fmod R.length).toNat = a at *
  generalize (y.fmod R.length).toNat = b at *
  generalize changedL R S = C at *
  by_cases hab : a = b
  · subst hab
    obtain ⟨b, hb, hne⟩ : ∃ b, b < R.length ∧ a ≠ b := by
      by_cases h : a = 0
      · exact ⟨1, by omega, by omega⟩
      · exact ⟨0, by omega, h⟩
    exact math hl hR hw (by omega) h8 hne hx hb fun p q1 _ => hfar p q1 q1
  · exact math hl hR hw (by omega) h8 hab hx hy hfar
end Mine

namespace Mine
theorem main
   (hPow : ∀ x j, x < 2 ^ 32 → iter powStep j x < 2 ^ 32)
   (hov : ∀ x k m, m < k → k < 8 → (ovAt x (iter powStep k 1 ^^^ iter powStep m 1) (ovN (iter powStep k 1 ^^^ iter powStep m 1))).low = 1 ∧ ∀ j < ovN (iter powStep k 1 ^^^ iter powStep m 1), (ovAt x (iter powStep k 1 ^^^ iter powStep m 1) j).low ≠ 1)
   (hmath : ∀ S : List Int, outerD (changedL (rowOf S) S) (gapsOf (rowOf S) (changedL (rowOf S) S)) (changedL (rowOf S) S).length = dueOut (rowOf S) (placesOf (rowOf S) (changedL (rowOf S) S) (rowOf S).length) (rowOf S).length) :
   PySem.Challenge.rw_mr0031_01.Holds := by
  refine Mine.hd ?_
  k_fill
  intro w s₀ s₁ mg mb G Y fa o pm cd doc dV kV ho hd hcd hD hmg hg args vals as hpre hlay hrd hwl hlo
  wrow_args hpre hlay hrd hwl hlo
  rename_i S _ _ _ _ _ _ _ ls ss _ hls _ _ _ hI _ h63 _
  have X := km_in_of Y
  have hT8 := km_tabs_of Y 39 (by simp)
  refine Ground.open G ?_
  intro T B D TE TW
  have hf : nsIn (Mine.hd.heap_39 w.params) mainGlobals (Str.ofString "law") = some (some (.ref 89)) := by kernel_rfl
  have efa : (some (Value.ref fa)) = some (Value.ref 89) := hmg.symm.trans (mg_of X T.g hf)
  cases efa
  have hT9 : TabsAt [((43 : Addr), (39 : Addr))] s₁.heap := List.forall_mem_cons.mpr ⟨⟨codeHd_of_K (c := 43) (P := 39) X (by kernel_rfl), hT8⟩, fun _ h => nomatch h⟩
  have W : Wd w (gh s₁.heap) := ⟨ghost_K hT9 X (by kernel_rfl), ⟨_, _, _, _, _, ghost_top hT9 T⟩, (ghost_code hT9).1⟩
  have hTab : Tab s₁.heap := ⟨#[], hT8, trivial, fun pos hp => .inl rfl⟩
  refine law_c (dp := callerA.depth) (un := callerA.units) (fr := callerA.frames) (gd := callerA.guards) W (by decide) (by decide) hTab hls hI (by omega) hPow hov (hmath S) ?_
  intro h' tk hk hps
  obtain ⟨ps, hps⟩ := hps
  refine ⟨.inl ⟨.bool true, .bool true, [], rfl, fun _ => rfl, .bool true, by with_unfolding_all rfl, fun _ => ⟨List.nodup_nil, fun _ h => nomatch h⟩⟩, ⟨fun b o e => ?_, fun b o e => ?_⟩, rfl, .of_eq hg⟩
  · by_cases hb : b = 39
    · subst hb
      rw [hT8] at e
      cases e
      exact .inr (.inl ⟨(((hT9 _ (.head _)).1.tab hT8).isCodeTable), rfl, #[], ps, rfl, by rw [Array.empty_append]; exact hps⟩)
    · exact .inl (hk b o hb e)
  · by_cases hb : b = 39
    · subst hb; exact ⟨_, hps⟩
    · exact ⟨o, hk b o hb e⟩
end Mine
theorem PySem.Challenge.cw_mr0031_01_holds : PySem.Challenge.rw_mr0031_01.Holds := by
  exact Mine.main Mine.hPow Mine.hov Mine.hmath
