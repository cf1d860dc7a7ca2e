import PyProof.Rows.All
import Wide.All
import OpenK.AllK
import Wide.FinOn
import PySem.Challenge.RW_ci0003_01
set_option Elab.async false
set_option maxRecDepth 100000
set_option maxHeartbeats 8000000
/-! Lib1 -/
section
open PySem PySem.W PyProof.Rows PySem.Calls
namespace Mine
def Stop (P : Prop) : Prop := P
theorem Stop.go {P : Prop} (h : Stop P) : P := h
theorem Stop.mk {P : Prop} (h : P) : Stop P := h
section
variable {prog : Program} {w : World} {A : Around} {h₀ : Heap} {L : Addr} {m : PySem.Str → Option Value} {env : Env} {elt : Expr} {x : PySem.Str} {scope : Scope} {cl : List (PySem.Str × Addr)} {s : Shared} {S : List (Addr × Obj) → Prop} {P : Nat → Value → Prop} {Fin : List Value → List (Addr × Obj) → Prop} {news : List (Addr × Obj)}
/-- a comprehension whose turns leave the ledger as it was and hand back a value that R tells of -/
theorem comp_all {n : Nat} (R : Nat → Value → Prop)
    (turn : ∀ i v I oI C oC D m₂ ys h tk (E' : Value → Shared → Prop), i < n → P i v → LCg.NsObj oC m₂ → m₂ x = some v → Fr h₀ L h m → News h₀ L h ((I, oI) :: (C, oC) :: (D, LCg.lst ys) :: news) → LCg.Off3 I C D news → ((@Ne Nat I C) ∧ (@Ne Nat I D) ∧ (@Ne Nat C D)) → S news →
      wpAny (model prog w) A (eval elt (compEnvC scope cl C env)) (LCg.CompEnd h₀ L m { s with heap := h, toks := tk } I oI C oC D (LCg.lst ys) S (fun y news' => news' = news ∧ R i y)) E' { s with heap := h, toks := tk })
    (hS : S news)
    (fin : ∀ ys : List Value, ys.length = n → (∀ i y, ys[i]? = some y → R i y) → Fin ys news) : LCg.CompRest prog w A h₀ L m env elt x scope cl s S P Fin n 0 [] news := by
  have key : ∀ (j i : Nat) (ys : List Value), i + j = n → ys.length = i → (∀ k y, ys[k]? = some y → R k y) → LCg.CompRest prog w A h₀ L m env elt x scope cl s S P Fin j i ys news := by
    intro j
    induction j with
    | zero =>
      intro i ys hi hl hy
      exact LCg.CompRest.zero (fin ys (by omega) hy)
    | succ j ih =>
      intro i ys hi hl hy
      refine LCg.CompRest.succ ?_
      intro v I oI C oC D m₂ h tk E' hv hC hx F N off ne
      refine wpAny_mono (turn i v I oI C oC D m₂ ys h tk E' (by omega) hv hC hx F N off ne hS) (fun y s₂ hq => ?_) fun _ _ e => e
      obtain ⟨h', tk', nw, e, F', N', off', hS', hn, hr⟩ := hq
      subst hn
      refine ⟨h', tk', nw, e, F', N', off', hS', ?_⟩
      refine ih (i + 1) _ (by omega) (by simp [hl]) ?_
      intro k z hz
      rcases Nat.lt_trichotomy k ys.length with hk | hk | hk
      · rw [List.getElem?_append_left hk] at hz; exact hy k z hz
      · subst hk
        rw [List.getElem?_append_right (Nat.le_refl _), Nat.sub_self] at hz
        cases hz; rw [hl]; exact hr
      · rw [List.getElem?_eq_none (by simp; omega)] at hz; cases hz
  exact key n 0 [] (by omega) rfl (by intro i y hy; simp at hy)
end
theorem intsAre_of : ∀ {vs : List Value} {ns : List Int}, vs.length = ns.length → (∀ (i : Nat) (v : Value), vs[i]? = some v → ∃ (n : Int) (t : Tok), ns[i]? = some n ∧ v = .int n t) → IntsAre vs ns
  | [], [], _, _ => .nil
  | v :: vs, n :: ns, hl, h => by
    obtain ⟨k, t, hk, hv⟩ := h 0 v rfl
    have hk' : n = k := by simpa using hk
    subst hk'; subst hv
    refine IntsAre.cons _ _ (intsAre_of (by simpa using hl) fun i v hv => ?_)
    have := h (i + 1) v (by simpa using hv)
    simpa using this
  | [], _ :: _, hl, _ => by cases hl
  | _ :: _, [], hl, _ => by cases hl
theorem strsAre_of : ∀ {vs : List Value} {ns : List PySem.Str}, vs.length = ns.length → (∀ (i : Nat) (v : Value), vs[i]? = some v → ∃ (n : PySem.Str) (t : Tok), ns[i]? = some n ∧ v = .str n t) → StrsAre vs ns
  | [], [], _, _ => .nil
  | v :: vs, n :: ns, hl, h => by
    obtain ⟨k, t, hk, hv⟩ := h 0 v rfl
    have hk' : n = k := by simpa using hk
    subst hk'; subst hv
    refine StrsAre.cons _ _ (strsAre_of (by simpa using hl) fun i v hv => ?_)
    have := h (i + 1) v (by simpa using hv)
    simpa using this
  | [], _ :: _, hl, _ => by cases hl
  | _ :: _, [], hl, _ => by cases hl
theorem strsAre_at : ∀ {vs : List Value} {ns : List PySem.Str}, StrsAre vs ns → ∀ (i : Nat) (v : Value), vs[i]? = some v → ∃ (n : PySem.Str) (t : Tok), ns[i]? = some n ∧ v = .str n t
  | _, _, .nil, i, v, h => by simp at h
  | _, _, .cons x t r, i, v, h => by
    cases i with
    | zero => exact ⟨x, t, rfl, by simpa using h.symm⟩
    | succ i => simpa using strsAre_at r i v (by simpa using h)
theorem strsAre_len : ∀ {vs : List Value} {ns : List PySem.Str}, StrsAre vs ns → vs.length = ns.length
  | _, _, .nil => rfl
  | _, _, .cons _ _ r => by simp [strsAre_len r]
theorem allLt_mem {d : Addr} : ∀ {l : List (Addr × Obj)}, AllLt d l → ∀ p ∈ l, @LT.lt Nat _ p.1 d
  | [], _, _, h => nomatch h
  | _ :: _, x, p, h => by
    rcases List.mem_cons.mp h with rfl | h
    · exact x.1
    · exact allLt_mem x.2 p h
theorem all_ne {d e : Nat} {l : List (Addr × Obj)} (h : AllLt d l) (he : d ≤ e) : ∀ p ∈ l, p.1 ≠ e := fun p hp q => by
  have := allLt_mem h p hp
  rw [q] at this
  exact absurd (Nat.lt_of_lt_of_le this he) (Nat.lt_irrefl _)
theorem off1_ne {d : Addr} : ∀ {l : List (Addr × Obj)}, LCg.Off1 d l → ∀ p ∈ l, p.1 ≠ d
  | [], _, _, h => nomatch h
  | _ :: _, x, p, h => by
    rcases List.mem_cons.mp h with rfl | h
    · exact x.1
    · exact off1_ne x.2 p h
theorem all_neF {d e : Addr} {l : List (Addr × Obj)} (h : ∀ p ∈ l, p.1 < d) (he : @LE.le Nat _ d e) : ∀ p ∈ l, p.1 ≠ e := fun p hp q => by
  have := h p hp
  rw [q] at this
  exact absurd (Nat.lt_of_lt_of_le this he) (Nat.lt_irrefl _)
end Mine
end
/-! NLog -/
section
open PySem PySem.W PyProof.Rows PySem.Calls
namespace Mine
/-- a code of the stack that would hold a buffer -/
def holds (c : Code) : Bool := match c with
  | .builtin id ⟨.ref _ :: _, _⟩ => Builtin.Bytes.decodersThatHold.contains id
  | _ => false
/-- no code of the stack holds a buffer, and the claim's own call lies on the stack -/
def Free (l : List (Code × Pos)) : Prop := (∀ x ∈ l, holds x.1 = false) ∧ ∃ x ∈ l, x.1.isCaller = true
theorem Free.cons {c : Code} {p : Pos} {l : List (Code × Pos)} (h : holds c = false) (f : Free l) : Free ((c, p) :: l) := by
  obtain ⟨x, hx, e⟩ := f.2
  refine ⟨fun x hx => ?_, x, List.mem_cons_of_mem _ hx, e⟩
  rcases List.mem_cons.mp hx with rfl | hx
  · exact h
  · exact f.1 x hx
/-- as wpAny, but for the contexts alone whose stack holds no buffer -/
def wpN {α : Type} (M : Model) (A : Around) (t : Sem α) (Q : α → Shared → Prop) (E : Value → Shared → Prop) (s : Shared) : Prop :=
  ∀ Γ p, Γ.In A → Free ((Γ.code, p) :: Γ.below) → Sem.wp M Γ t (fun a _ s' => Q a s') (fun e _ s' => E e s') p s
def codeN (M : Model) (A : Around) (c : Code) (R : Result → Shared → Prop) (s : Shared) : Prop :=
  ∀ Γ p, Γ.code = c → Γ.Below A → Free Γ.below → wpCode M Γ R p s
theorem free_at {Γ : Ctx} {p p' : Pos} (h : Free ((Γ.code, p) :: Γ.below)) : Free ((Γ.code, p') :: Γ.below) := by
  refine ⟨fun x hx => ?_, ?_⟩
  · rcases List.mem_cons.mp hx with rfl | hx
    · exact h.1 (Γ.code, p) List.mem_cons_self
    · exact h.1 x (List.mem_cons_of_mem _ hx)
  · obtain ⟨x, hx, e⟩ := h.2
    rcases List.mem_cons.mp hx with rfl | hx
    · exact ⟨(Γ.code, p'), List.mem_cons_self, e⟩
    · exact ⟨x, List.mem_cons_of_mem _ hx, e⟩
section
variable {α β : Type} {M : Model} {A : Around} {E : Value → Shared → Prop} {s : Shared}
theorem wpN_lift {t : Sem α} {Q : α → Shared → Prop} (h : wpAny M A t Q E s) : wpN M A t Q E s := fun Γ p hΓ _ => h Γ p hΓ
theorem codeN_lift {c : Code} {R : Result → Shared → Prop} (h : codeAny M A c R s) : codeN M A c R s := fun Γ p hc hΓ _ => h Γ p hc hΓ
theorem wpN_mono {t : Sem α} {Q Q' : α → Shared → Prop} {E' : Value → Shared → Prop} (h : wpN M A t Q E s) (hQ : ∀ a s, Q a s → Q' a s) (hE : ∀ e s, E e s → E' e s) : wpN M A t Q' E' s :=
  fun Γ p hΓ hf => Sem.wp_mono M Γ t (fun a _ s => hQ a s) (fun e _ s => hE e s) p s (h Γ p hΓ hf)
theorem codeN_mono {c : Code} {R R' : Result → Shared → Prop} (h : codeN M A c R s) (hR : ∀ r s, R r s → R' r s) : codeN M A c R' s := fun Γ p hc hΓ hf => by
  obtain ⟨r, s', h1, h2⟩ := h Γ p hc hΓ hf
  exact ⟨r, s', h1, hR _ _ h2⟩
theorem wpN_pure {a : α} {Q : α → Shared → Prop} (h : Q a s) : wpN M A (pure a) Q E s := wpN_lift (wpAny_pure h)
theorem wpN_bind {m : Sem α} {f : α → Sem β} {Q : β → Shared → Prop} (h : wpN M A m (fun a s' => wpN M A (f a) Q E s') E s) : wpN M A (m >>= f) Q E s := fun Γ p hΓ hf => by
  rw [Sem.wp_bind']
  exact Sem.wp_mono M Γ m (fun a p' s' h' => h' Γ p' hΓ (free_at hf)) (fun _ _ _ h' => h') p s (h Γ p hΓ hf)
/-- what goes before is of the library's logic, what comes behind of this one -/
theorem wpN_then {m : Sem α} {f : α → Sem β} {Q : β → Shared → Prop} (h : wpAny M A m (fun a s' => wpN M A (f a) Q E s') E s) : wpN M A (m >>= f) Q E s := wpN_bind (wpN_lift h)
theorem wpN_onRaise {m : Sem α} {k : Value → Sem Unit} {Q : α → Shared → Prop} (h : wpN M A m Q (fun e s' => wpN M A (k e) (fun _ s'' => E e s'') E s') s) : wpN M A (m.onRaise k) Q E s := fun Γ p hΓ hf => by
  rw [Sem.wp_onRaise]
  exact Sem.wp_mono M Γ m (fun _ _ _ h' => h') (fun e p' s' h' => h' Γ p' hΓ (free_at hf)) p s (h Γ p hΓ hf)
theorem wpN_holding {vs : List Value} {m : Sem α} {Q : α → Shared → Prop} (h : wpN M A m Q E s) : wpN M A (holding vs m) Q E s :=
  fun Γ p hΓ hf => by rw [Sem.wp_holding]; exact h Γ p hΓ hf
theorem wpN_of_eq {t u : Sem α} {Q : α → Shared → Prop} (e : t = u) (h : wpN M A u Q E s) : wpN M A t Q E s := e ▸ h
theorem wpN_attempt {m : Sem α} {Q : Except Value α → Shared → Prop} (h : wpN M A m (fun a => Q (.ok a)) (fun e => Q (.error e)) s) :
    wpN M A m.attempt Q E s := fun Γ p hΓ hf => by rw [Sem.wp_attempt]; exact h Γ p hΓ hf
theorem wpN_run {c : Code} {h : Option Value} {Q : Flow → Shared → Prop}
    (hc : codeN M (A.mark h) c (fun r s' => match r with | .ok f => Q f s' | .error e => E e s') s) (hnb : h ≠ some byPass := by intro x; cases x) : wpN M A (run c h) Q E s :=
  fun Γ p hΓ hf => by rw [Sem.wp_run]; exact hc _ p rfl (hΓ.enter c h p hnb) hf
theorem wpN_runValue {c : Code} {Q : Value → Shared → Prop}
    (hc : codeN M A c (fun r s' => match r with | .ok (.ret v) => Q v s' | .ok _ => False | .error e => E e s') s) : wpN M A (runValue c) Q E s :=
  fun Γ p hΓ hf => by rw [Sem.wp_runValue]; exact hc _ p rfl (hΓ.enter c none p (by intro x; cases x)) hf
theorem wpN_call {f : Value} {pos : List Value} {kw : List (PySem.Str × Value)} {Q : Value → Shared → Prop}
    (hc : codeN M A (.call f ⟨pos, kw⟩) (fun r s' => match r with | .ok (.ret v) => Q v s' | .ok _ => False | .error e => E e s') s) : wpN M A (call f pos kw) Q E s := wpN_runValue hc
theorem codeN_of_tree {c : Code} {R : Result → Shared → Prop} (hc : holds c = false)
    (h : wpN M (A.under c) (M.den c) (fun fin s' => match fin with | .done f => R (.ok f) s' | .again c' => c'.quiet = true ∧ codeN M A c' R s')
      (fun e s' => R (.error e) s') s) : codeN M A c R s := fun Γ p hcd hΓ hf => by
  rw [wpCode_iff_wp, hcd]
  refine Sem.wp_mono M Γ _ (fun fin p' s' h' => ?_) (fun _ _ _ h' => h') p s (h Γ p (hcd ▸ hΓ.in) (Free.cons (hcd ▸ hc) hf))
  cases fin with
  | done f => exact h'
  | again c' => exact ⟨h'.1, h'.2 (Γ.goto c') p' rfl (hΓ.goto c') hf⟩
/-- the very question that the library's logic cannot answer -/
theorem wpN_exported {a : Addr} {Q : Bool → Shared → Prop} (hg : A.guards = some []) (h : Q false s) : wpN M A (Builtin.Bytes.exported (.ref a)) Q E s := fun Γ p hΓ hf => by
  show Q (((Γ.code, p) :: Γ.below).any _) s
  have hG : guardsOf ((Γ.code, p) :: Γ.below) = [] := by rw [guardsOf_cons]; exact hΓ.2.2.2.1 _ hg
  rw [List.any_eq_false.mpr]
  · exact h
  · rintro ⟨c, q⟩ hx
    have h1 := hf.1 _ hx
    have h2 : c.isGuard = false := by
      cases e : c.isGuard with
      | false => rfl
      | true =>
        have : c ∈ guardsOf ((Γ.code, p) :: Γ.below) := List.mem_filter.mpr ⟨List.mem_map.mpr ⟨_, hx, rfl⟩, e⟩
        rw [hG] at this
        cases this
    rw [Bool.not_eq_true]
    cases c with
    | builtin id args =>
      by_cases e1 : id = "bytearray.__contains__"
      · subst e1; exact absurd h2 (by show ¬ (guardIds.contains "bytearray.__contains__" = false); decide)
      by_cases e2 : id = "bytearray.__mod__"
      · subst e2; exact absurd h2 (by show ¬ (guardIds.contains "bytearray.__mod__" = false); decide)
      by_cases e3 : id = "bytearray.__rmod__"
      · subst e3; exact absurd h2 (by show ¬ (guardIds.contains "bytearray.__rmod__" = false); decide)
      by_cases e4 : id = "_struct.pack_into.held"
      · subst e4; exact absurd h2 (by show ¬ (guardIds.contains "_struct.pack_into.held" = false); decide)
      by_cases e5 : id = "bytearray.find.held"
      · subst e5; exact absurd h2 (by show ¬ (guardIds.contains "bytearray.find.held" = false); decide)
      obtain ⟨pos, kw⟩ := args
      delta Builtin.Bytes.exported.match_1
      refine (dif_neg e1).trans ?_
      refine (dif_neg e2).trans ?_
      refine (dif_neg e3).trans ?_
      refine (dif_neg e4).trans ?_
      refine (dif_neg e5).trans ?_
      cases pos with
      | nil => rfl
      | cons v tl =>
        show (Builtin.Bytes.sameRef v (.ref a) && Builtin.Bytes.decodersThatHold.contains id) = false
        cases v with
        | ref b => rw [show Builtin.Bytes.decodersThatHold.contains id = false from h1, Bool.and_false]
        | _ => rfl
    | _ => rfl
/-- under the claim's own call no refusal is marked -/
theorem wpN_mark {own : List String} {e : Value} {Q : Unit → Shared → Prop} (h : Q () s) : wpN M A (markTheRefusal own e) Q E s := fun Γ p hΓ hf => by
  have hno : pythonCodeMadeTheCall own ((((Γ.code, p) :: Γ.below)).map (·.1)) = false := by
    unfold pythonCodeMadeTheCall
    obtain ⟨x, hx, e⟩ := hf.2
    have this : ∀ f : Code → Bool, (∀ c, c.isCaller = true → f c = true) → (List.map (fun x => x.1) ((Γ.code, p) :: Γ.below)).any f = true := fun f h =>
      List.any_eq_true.mpr ⟨x.1, List.mem_map.mpr ⟨x, hx, rfl⟩, h _ e⟩
    rw [this]
    · rfl
    · intro c hc
      unfold Code.isCaller at hc
      split at hc
      · rfl
      · cases hc
  unfold markTheRefusal
  show Sem.wp M Γ (Sem.bind stack _) _ _ p s
  unfold stack
  rw [Sem.wp_bind, Sem.wp_stack]
  show Sem.wp M Γ (if pythonCodeMadeTheCall own ((((Γ.code, p) :: Γ.below)).map (·.1)) = true then _ else _) _ _ p s
  rw [hno]
  exact h
end
end Mine
end
/-! TopN -/
section
open PySem PySem.W PyProof.Rows PySem.Calls
namespace Mine
/-- the thread of the claim's call, by this text's logic: its one context holds no buffer -/
theorem endsN {prog : Program} {w : World} {t : Sem Fin} {s : Shared} {R : Result → Shared → Prop} (hreg : s.asleep) (hgens : s.gens = #[])
    (h : wpN (model prog w) callerA t (fun fin s' => ∃ f, fin = .done f ∧ (R (.ok f) s' ∧ s'.gens = #[])) (fun e s' => R (.error e) s' ∧ s'.gens = #[]) s) :
    ∃ n r s', schedN (denote table) prog w n (.single s ⟨t, .builtin "claim.caller" {}, default, []⟩) = .halted (outcomeOf r) s' ∧ s'.heap.life = s.heap.life ∧ s'.gens = #[] ∧ R r s' := by
  have h' : Sem.wp (model prog w) ⟨.builtin "claim.caller" {}, none, none, [], none⟩ t (Sem.finPost (model prog w) ⟨.builtin "claim.caller" {}, none, none, [], none⟩ fun r s' => (R r s' ∧ s'.gens = #[]) ∧ leftWithCleanup s'.gens = false)
      (fun e _ s' => (R (.error e) s' ∧ s'.gens = #[]) ∧ leftWithCleanup s'.gens = false) default s := by
    refine Sem.wp_mono _ _ t (fun fin p' s' q => ?_) (fun e _ s' q => ⟨q, by rw [q.2]; simp [leftWithCleanup]⟩) default s
      (h ⟨.builtin "claim.caller" {}, none, none, [], none⟩ default caller_in ⟨(fun x hx => (List.mem_cons.mp hx).elim (fun e => by rw [e]; rfl) (fun h => nomatch h)), _, List.mem_cons_self, rfl⟩)
    obtain ⟨f, rfl, q⟩ := q
    exact ⟨q, by rw [q.2]; simp [leftWithCleanup]⟩
  obtain ⟨n, r, s₁, hn, hR, hg⟩ := (wp_iff_halts (M := model prog w) (R := fun r s' => R r s' ∧ s'.gens = #[]) ..).mp h'
  obtain ⟨s₂, hr, hf, hc⟩ := runNI_real _ _ _ hn (outcomeOf_ends r)
  obtain rfl : s₂ = s₁ := Shared.eq_of_forget_eq hf hg
  have hG : leftWithCleanup s.gens = false := by rw [hgens]; simp [leftWithCleanup]
  have es : { s with gens := #[] } = s := by cases s; cases hgens; rfl
  have hr' : runN (denote table) prog w n { s with gens := #[] } ⟨t, .builtin "claim.caller" {}, default, []⟩ = .halted (outcomeOf r) s₂ := by rw [es]; exact hr
  have z := sched_gens (s := { s with gens := #[] }) hG hr' (outcomeOf_ends r) hg rfl (by rw [es]; exact hc) (by rw [es]; exact hreg)
  refine ⟨n, r, s₂, ?_, runN_life _ _ _ hr, hg, hR⟩
  have e2 : ({ s₂ with gens := s.gens } : Shared) = s₂ := by rw [hgens]; cases s₂; cases hg; rfl
  exact (show schedN (denote table) prog w n (.single s ⟨t, .builtin "claim.caller" {}, default, []⟩) = .halted (outcomeOf r) { s₂ with gens := s.gens } from z).trans (congrArg _ e2)
theorem callFromN {c : ClaimW} {tree : List Value → Sem Fin} {w : World} {s : Shared} {free : Addr → Prop} {gens : Prop} {kept : Heap → Prop} (hz : s.asleep) (hgens : s.gens = #[])
    (hspec : ∀ args, c.pre args = true → WData.layableAll args = true → ∀ ord : List DictEntry → List DictEntry, (∀ l, (ord l).Perm l) →
      ∃ vs s₁, layAllW c.records (classAt s.heap) w.params ord args s = some (vs, s₁) ∧
        wpN (model c.prog w) callerA (tree vs) (fun fin s' => ∃ f, fin = .done f ∧ (c.Ends s args vs s₁ (.ok f) s' ∧ s'.os = s.os ∧ s'.gens = #[] ∧ kept s'.heap))
          (fun e s' => c.Ends s args vs s₁ (.error e) s' ∧ s'.os = s.os ∧ s'.gens = #[] ∧ kept s'.heap) s₁) :
    c.CallFrom (fun vs => ⟨tree vs, .builtin "claim.caller" {}, default, []⟩) w free gens kept s := by
  intro args hpre hlay ord hord
  obtain ⟨vs, s₁, hlaid, hcode⟩ := hspec args hpre hlay ord hord
  have hal := layAllW_rest _ _ _ hlaid
  obtain ⟨k, r, s', hsched, hlife, hg', hcase, hos, hkp⟩ := endsN (prog := c.prog) (w := w) (t := tree vs) (s := s₁) (R := fun r s' => c.Ends s args vs s₁ r s' ∧ s'.os = s.os ∧ kept s'.heap)
    (Shared.asleep_of_life hal.2.2.2 hz) ((show s₁.gens = s.gens from hal.1).trans hgens)
    (wpN_mono hcode (fun _ _ ⟨f, e, a, b, d, k⟩ => ⟨f, e, ⟨a, b, k⟩, d⟩) fun _ _ ⟨a, b, d, k⟩ => ⟨⟨a, b, k⟩, d⟩)
  refine ⟨vs, s₁, hlaid, k, _, s', hsched, ?_, (fun _ i x hx => by rw [hgens] at hx; simp at hx), hkp, congrArg Life.seen (hlife.trans hal.2.2.2), Shared.rest_eq hos⟩
  rcases hcase with ⟨v, rfl, d1, d2, d3, d4, d5⟩ | ⟨e, ob, cls, rfl, d1, d2, d3, d4, d5⟩
  · exact .inl ⟨v, rfl, d1, d2, d3, fun b o y _ => d4 b o y, d5⟩
  · exact .inr ⟨e, ob, cls, rfl, d1, d2, d3, d4, fun b o y _ => d5 b o y⟩
/-- what is asked of the walk: as WalkO, by this text's logic -/
abbrev WalkP (q : Program) (loose : List PySem.Str) (XP : (PySem.Str → Option Value) → Heap → Prop) (YP : World → Heap → Prop) (r : RowW) (d : DefRec) (kwd : List (PySem.Str × Expr)) (run : Value → List Value → Sem Value) : Prop :=
  ∀ (w : World) (s₀ s₁ : Shared) (mg mb : PySem.Str → Option Value), Ground q loose r.records XP w s₀ mg mb s₁.heap → YP w s₁.heap → ∀ (a : Addr) (o : Obj) (pm cd doc dV kV : Value), s₁.heap.get? a = some o →
    o.data = .func { docDef d.name d.params d.body d.scope pm cd doc with defaults := dV, kwdefaults := kV } → s₁.heap.CodeRec cd d.name → Dflts mg s₁.heap d.params kwd dV kV → mg d.name = some (.ref a) → s₁.gens = #[] →
    ∀ (args : List WData) (vals : List Value) (as : List Addr), r.claim.pre args = true → WData.layableAll args = true → ReadsAllW r.records (classAt s₀.heap) s₁.heap vals args as → WellAll w.params s₁.heap vals args → (∀ a ∈ as, (a == sysModules) = false) →
      wpN (model r.prog w) callerA (run (.ref a) vals) (fun v s' => GoodW r.claim (classAt s₀.heap) (ExcName.means s₀.heap) args s₁ (.ok (.ret v)) s')
        (fun e s' => GoodW r.claim (classAt s₀.heap) (ExcName.means s₀.heap) args s₁ (.error e) s') s₁
theorem PySem.W.holds_open {r : OpenRow} {q : Program} {loose : List PySem.Str} {Xt : Shared → Bool} {XP : (PySem.Str → Option Value) → Heap → Prop} {α : Type} {Yf : Shared → α} {Ya : World → α} {YP : World → Heap → Prop} {d : DefRec} {kwd : List (PySem.Str × Expr)} {N : Nat}
    (left : LeftO r.prog q loose Xt Yf Ya N) (hY : ∀ w s, Yf s = Ya w → YP w s.heap) (hYk : ∀ w h h', YP w h → (∀ b o, h.get? b = some o → h'.get? b = some o) → YP w h')
    (hX : ∀ s, Xt s = true → XP (s.heap.nsMap mainGlobals) s.heap) (hXk : ∀ mg h h', XP mg h → (∀ b o, h.get? b = some o → h'.get? b = some o) → XP mg h')
    (hdef : defOf q r.name = some (d, kwd)) (hp : r.prog.theDef r.name = some (d.params, d.body, d.scope)) (hk : kwWritten? d.params.kwonlyargs d.params.kw_defaults = some kwd) (hRf : ∀ s, Xt s = true → RecFacts r.records s.heap) (hwr : (!r.writes || r.records.isEmpty) = true)
    (k1 : r.wellSaid = true) (ok : (chainsOk q && opensWell r.prog && (frees r.toRowW && r.within.isEmpty)) = true) (hb : r.prog.bare) (hw : r.toRowW.promised)
    (call : WalkP q loose XP YP r.toRowW d kwd fun f vs => PySem.call f vs) : r.Holds := by
  obtain ⟨ok, k5⟩ := Bool.and_eq_true_iff.mp ok
  obtain ⟨hch, o1⟩ := Bool.and_eq_true_iff.mp ok
  obtain ⟨k5, k6⟩ := Bool.and_eq_true_iff.mp k5
  obtain ⟨hsame, hu, ha, hap, hm⟩ := frees_parts k5
  refine ⟨k1, hw, ⟨hb, o1, by show r.toRowW.makers.map _ = []; rw [hm]; rfl⟩, hw.witness, fun w => ⟨(left.behind hX hch w).1, fun s' hs' => ?_⟩⟩
  obtain ⟨s₀, hf, hg0, s, hT, hz, hgens, hg, G00, y⟩ := (left.behind (XP := fun mg h => XP mg h ∧ RecFacts r.records h) (fun s hs => ⟨hX s hs, hRf s hs⟩) hch w).2 s' hs'
  have G0 : Ground q loose [] XP w s (s.heap.nsMap mainGlobals) (s.heap.nsMap builtinsNs) s.heap := ⟨G00.T, G00.B, G00.D, G00.TE, G00.TD, G00.W, G00.X.1, G00.cls, G00.has, G00.apart, G00.once, G00.K⟩
  have RF := G00.X.2
  have hgens : s.gens = #[] := Array.eq_empty_of_size_eq_zero (beq_iff_eq.mp hgens)
  have G : Ground q loose r.records XP w s _ _ s.heap := RF.ground G0
  refine ⟨s₀, hf, hg0, s, hT, fun n hn => ?_, RF.1, RF.2.1, ?_⟩
  · obtain rfl : n = r.name := by split at hn <;> simp_all
    exact pinned_of_view hg G0 hdef hp hk
  refine callFromN (c := r.toRowW.claim) (tree := fun vs => do match ← nsGet mainNs r.name with
      | some f => do ret (← PySem.call f vs)
      | none => unsupported "claim.caller:no-such-global") hz hgens fun args hpre hlay ord hord => ?_
  obtain ⟨⟨vs, s₁⟩, hlaid⟩ := Option.isSome_iff_exists.mp (layAllW_isSome (P := w.params) (ord := ord) G.has args r.toRowW.args s (pre_splitW hpre).1)
  have keeps := layAllW_keeps _ _ _ hlaid
  have hal := layAllW_rest _ _ _ hlaid
  obtain ⟨as, hrd, hin, hold⟩ := reads_layAllW hord _ _ _ hlaid hlay s₁.heap (fun _ _ e => e)
  have hg1 : s₁.gens = #[] := hal.1.trans hgens
  have es : ({ s₁ with gens := #[] } : Shared) = s₁ := by cases s₁; cases hg1; rfl
  have G₁ := G.keeps hXk keeps
  obtain ⟨a, o, pm, cd, doc, dV, kV, h1, h2, h3, h4, h5⟩ := G₁.fn hdef
  have hname : r.toRowW.name = d.name := (defOf_name hdef).symm
  have z := call w s s₁ _ _ G₁ (hYk _ _ _ (hY w s y) keeps) a o pm cd doc dV kV h2 h3 h4 h5 (defOf_name hdef ▸ h1) hg1 args vs as hpre hlay hrd (well_layAllW hord args s _ hlaid _ fun _ _ e => e)
    (fun a ha => beq_eq_false_iff_ne.mpr fun e => by have := (hin.2.2 a ha).1; subst e; exact absurd G.low (Nat.not_lt.mpr this))
  have hi := ident_freeW hu ha hap
  have hwi : r.toRowW.claim.within = [] := List.isEmpty_iff.mp k6
  refine ⟨vs, s₁, hlaid, ?_⟩
  have fin : ∀ (res : Result) (s' : Shared), GoodW r.toRowW.claim (classAt s.heap) (ExcName.means s.heap) args s₁ res s' → r.toRowW.claim.Ends s args vs s₁ res s' ∧ s'.os = s.os ∧ s'.gens = #[] ∧ (r.writes = true → namesKept r.prog r.keeps s.heap s'.heap ∧ ∀ x ∈ r.records, ∀ a, classAt s.heap x.1 = some a → recordClass s'.heap a x.1 (x.2.map (·.1)) = true) := fun res s' g => by
    rw [← es] at g
    have z := g.endsN (c := r.toRowW.claim) hsame hwi hi hrd hold hal.2.2.1
    exact ⟨z.1, z.2.1, z.2.2, fun q => ⟨namesKept_of hT hg _ keeps fun b o e => .inl (g.2.1 b o e), noTable hwr q⟩⟩
  refine wpN_then (wpAny_nsGet G₁.T.g ?_)
  rw [h1]
  refine wpN_bind (wpN_mono z (fun v s' g => wpN_pure ⟨_, rfl, fin _ _ g⟩) fun e s' g => fin _ _ g)
end Mine
end
/-! HdN -/
section
open PySem PySem.W PyProof.Rows
namespace Mine
open_top hd for PySem.Challenge.rw_ci0003_01
end Mine
end
/-! NEnt -/
section
open PySem PySem.W PyProof.Rows PySem.Calls PyProof.V PySem.Spec
namespace Mine
section
variable {prog : Program} {w : World} {A A₀ : Around} {s : Shared} {K : Frag} {L : Addr} {h₀ base : Heap} {m mg mb : PySem.Str → Option Value} {news : List (Addr × Obj)} {p : Program} {loose : List PySem.Str} {mean : ExcName → Option Value} {R : Result → Shared → Prop}
/-- a call's last step: the body, by this text's logic -/
theorem codeN_func {body : List Stmt} {env : Env}
    (h : wpN (model prog w) (A.deeper env) (execs body env) (fun f s' => R (.ok (.ret (match f with | .ret v => v | _ => .none))) s')
      (fun e s' => wpAny (model prog w) (A.deeper env) (leaving env e) (fun _ s'' => R (.error e) s'') (fun e' s'' => R (.error e') s'') s') s) :
    codeN (model prog w) A (.func body env) R s := by
  refine codeN_of_tree rfl ?_
  show wpN _ (A.deeper env) (do point; match ← (execs body env).onRaise (leaving env) with | .ret v => ret v | _ => ret .none) _ _ s
  refine wpN_then (wpAny_point ?_)
  refine wpN_bind (wpN_onRaise (wpN_mono h (fun f s' h' => ?_) fun e s' h' => wpN_lift h'))
  cases f <;> exact wpN_pure h'
theorem codeN_call_function {a : Addr} {args : Args} {o : Obj} {fd : FuncData} {body : List Stmt} (hroom : A.depth < recursionLimit)
    (ho : s.heap.get? a = some o) (hd' : o.data = .func fd) (hco : fd.scope.isCoroutine = false) (hgen : fd.scope.isGenerator = false) (hbody : fd.body = .stmts body) (hcd : s.heap.CodeRec fd.code fd.qualname)
    (h : wpAny (model prog w) A.in1 (bindArgs fd args) (fun binds s₁ =>
      wpAny (model prog w) A.in1 (newFunctionEnv fd.scope fd.globals fd.closure binds (fd.qualname ++ ".<locals>.") (some a) fd.code none fd.builtins)
        (fun env s₂ => s₂.heap.NoLimit ∧ codeN (model prog w) A (.func body env) R s₂) (fun e s' => R (.error e) s') s₁) (fun e s' => R (.error e) s') s) :
    codeN (model prog w) A (.call (.ref a) args) R s := by
  refine codeN_of_tree rfl (wpN_lift ?_)
  show wpAny _ A.in1 (callAny (.ref a) args) _ _ s
  unfold callAny
  refine wpAny_bind (wpAny_load ho ?_)
  obtain ⟨c, oc, vs, tq, hc, hoc, hdc, hq⟩ := hcd
  simp only [hd', callFunction, hco, hgen, hbody, hc]
  rw [hc] at h
  refine wpAny_bind (m := field (.ref c) 1) (wpAny_field hoc hdc hq (wpAny_bind (wpAny_pure ?_)))
  refine wpAny_bind (wpAny_mono h (fun binds s₁ h₁ => ?_) fun _ _ h' => h')
  refine wpAny_bind (wpAny_mono h₁ (fun env s₂ h₂ => ?_) fun _ _ h' => h')
  exact wpAny_bind (wpAny_enterFrame h₂.1 hroom (wpAny_pure (And.intro rfl h₂.2)))
section
variable {env : Env} {outer : List Env} {name qual : PySem.Str} {params : Arguments} {body : List Stmt} {scope : Scope} {dV kV doc pm cdv ct oc : Value} {an od : Option Addr} {osl : Array (Option Value)} {f : Addr} {args : Args} {binds : List (PySem.Str × Value)}
theorem frameN {E : Value → Shared → Prop} (B : Below A₀ base outer h₀) (F : Fr h₀ L s.heap m) (N : News h₀ L s.heap news) (hlim : h₀.NoLimit) (hA : A.frames = some (env :: outer)) (hf : env.frame = some L) (hke : env.scope.kind = .function)
    (hloc : ∀ y ∈ binds, scope.names.lookup y.1 = some .local)
    (h : ∀ g L' h₁, Fr h₀ L g m → Fr g L' h₁ (fun y => binds.reverse.lookup y) → News g L' h₁ news → Below A base (env :: outer) g → h₀.StaysIn g →
      wpN (model prog w) (A.deeper (envOf qual scope L' f cdv)) (execs body (envOf qual scope L' f cdv))
        (fun fl s' => LeaveK h₀ L m g R (match fl with | .ret v => v | _ => .none) s')
        (fun e s' => wpAny (model prog w) (A.deeper (envOf qual scope L' f cdv)) (leaving (envOf qual scope L' f cdv) e) (fun _ s'' => R (.error e) s'') (fun e' s'' => R (.error e') s'') s')
        { s with heap := h₁, toks := s.toks + binds.length })
    (hcell : ∀ x ∈ scope.names, x.2 ≠ .cell) (hk : scope.kind = .function) :
    wpAny (model prog w) A.in1 (newFunctionEnv scope mainGlobals [] binds (qual ++ ".<locals>.") (some f) cdv none builtinsNs) (fun env' s₂ => s₂.heap.NoLimit ∧ codeN (model prog w) A (.func body env') R s₂) E s := by
  obtain ⟨FG, BG, st, lv⟩ := groundX (R := R) B F N hA hf hke
  refine wpAny_newFunctionEnv hcell hloc (fun h₁ hns hsb => ⟨(hlim.keeps F.keep).fresh _ hsb, codeN_func ?_⟩) hk
  have hk₁ : ∀ b o, s.heap.get? b = some o → h₁.get? b = some o := fun b o e => hsb.extBut b o (Nat.ne_of_lt (Heap.lt_size e)) (Heap.get?_push_of_some _ e)
  have F' : Fr (hideAll s.heap (news.map (·.1))) s.heap.objs.size h₁ (fun y => binds.reverse.lookup y) := ⟨hns, fun b o e => hk₁ b o (of_hideAll _ e), Nat.le_of_eq (hideAll_size _ _)⟩
  have N' : News (hideAll s.heap (news.map (·.1))) s.heap.objs.size h₁ news := fun p hp => ⟨hk₁ _ _ (N p hp).1, Nat.ne_of_lt (Heap.lt_size (N p hp).1), hideAll_none _ (List.mem_map_of_mem hp)⟩
  exact wpN_mono (h _ s.heap.objs.size h₁ FG F' N' BG st) (fun fl s' hl => lv _ _ hl) fun _ _ y => y
/-- a def without cells -/
theorem code_defN (B : Below A₀ base outer h₀) (F : Fr h₀ L s.heap m) (X₀ : K.In h₀) (N : News h₀ L s.heap news) (T : Top p loose mean mg mb h₀) (hA : A.frames = some (env :: outer)) (hf : env.frame = some L) (hke : env.scope.kind = .function)
    (ho : K.lookup f = some ⟨oc, od, .func (fnOf name qual params body scope dV kV doc pm an cdv ct), osl⟩) (hcd : codeIn K cdv qual = true) (hroom : A.depth < recursionLimit)
    (hbind : BindsTo s (fnOf name qual params body scope dV kV doc pm an cdv ct) args binds) (hloc : ∀ y ∈ binds, scope.names.lookup y.1 = some .local)
    (h : ∀ g L' h₁, Fr h₀ L g m → Fr g L' h₁ (fun y => binds.reverse.lookup y) → News g L' h₁ news → Below A base (env :: outer) g → K.In g → Top p loose mean mg mb g →
      wpN (model prog w) (A.deeper (envOf qual scope L' f cdv)) (execs body (envOf qual scope L' f cdv))
        (fun fl s' => LeaveK h₀ L m g R (match fl with | .ret v => v | _ => .none) s')
        (fun e s' => wpAny (model prog w) (A.deeper (envOf qual scope L' f cdv)) (leaving (envOf qual scope L' f cdv) e) (fun _ s'' => R (.error e) s'') (fun e' s'' => R (.error e') s'') s')
        { s with heap := h₁, toks := s.toks + binds.length })
    (hco : scope.isCoroutine = false) (hgen : scope.isGenerator = false) (hk : scope.kind = .function)
    (hcell : ∀ x ∈ scope.names, x.2 ≠ .cell) : codeN (model prog w) A (.call (.ref f) args) R s := by
  refine codeN_call_function (fd := fnOf name qual params body scope dV kV doc pm an cdv ct) (body := body) hroom ((X₀.keeps F.keep) _ _ ho) rfl hco hgen rfl (codeRec_of (X₀.keeps F.keep) hcd) (hbind _ _ _ _ ?_)
  exact frameN B F N T.nolimit hA hf hke hloc (fun g L' h₁ FG F' N' B' st => h g L' h₁ FG F' N' B' (X₀.keeps st) (T.keeps st)) hcell hk
/-- a def with *args and **kwargs, called without keywords -/
theorem code_bothN {vs : List Value} {nm nr : PySem.Str} {front : List (PySem.Str × Value)} {g₁ : Addr → Sem (List (PySem.Str × Value))} {g₂ : Addr → Addr → Sem (List (PySem.Str × Value))}
    (B : Below A₀ base outer h₀) (F : Fr h₀ L s.heap m) (X₀ : K.In h₀) (N : News h₀ L s.heap news) (T : Top p loose mean mg mb h₀) (hA : A.frames = some (env :: outer)) (hf : env.frame = some L) (hke : env.scope.kind = .function)
    (ho : K.lookup f = some ⟨oc, od, .func (fnOf name qual params body scope dV kV doc pm an cdv ct), osl⟩) (hcd : codeIn K cdv qual = true) (hroom : A.depth < recursionLimit)
    (hp : peekA K ⟨prog, w.params⟩ (bindArgs (fnOf name qual params body scope dV kV doc pm an cdv ct) args) = some (({ cls := .type "tuple", data := .seq vs.toArray } : Obj), g₁))
    (hp₂ : ∀ D, peekA K ⟨prog, w.params⟩ (g₁ D) = some (dictOf [] 0, g₂ D))
    (hk₂ : ∀ C D, g₂ C D = pure (front ++ [(nr, Value.ref C)] ++ [(nm, Value.ref D)]))
    (hloc : ∀ C D, ∀ y ∈ front ++ [(nr, Value.ref C)] ++ [(nm, Value.ref D)], scope.names.lookup y.1 = some .local)
    (h : ∀ C D g L' h₁ tk, (∀ p ∈ news, p.1 < C) → C < D → (D == sysModules) = false → Fr h₀ L g m → Fr g L' h₁ (fun y => (front ++ [(nr, Value.ref C)] ++ [(nm, Value.ref D)]).reverse.lookup y) →
      News g L' h₁ ((D, dictOf [] 0) :: (C, ({ cls := .type "tuple", data := .seq vs.toArray } : Obj)) :: news) → Below A base (env :: outer) g → K.In g → Top p loose mean mg mb g →
      wpN (model prog w) (A.deeper (envOf qual scope L' f cdv)) (execs body (envOf qual scope L' f cdv))
        (fun fl s' => LeaveK h₀ L m g R (match fl with | .ret v => v | _ => .none) s')
        (fun e s' => wpAny (model prog w) (A.deeper (envOf qual scope L' f cdv)) (leaving (envOf qual scope L' f cdv) e) (fun _ s'' => R (.error e) s'') (fun e' s'' => R (.error e') s'') s')
        { s with heap := h₁, toks := tk })
    (hco : scope.isCoroutine = false) (hgen : scope.isGenerator = false) (hk : scope.kind = .function)
    (hcell : ∀ x ∈ scope.names, x.2 ≠ .cell) : codeN (model prog w) A (.call (.ref f) args) R s := by
  refine codeN_call_function (fd := fnOf name qual params body scope dV kV doc pm an cdv ct) (body := body) hroom ((X₀.keeps F.keep) _ _ ho) rfl hco hgen rfl (codeRec_of (X₀.keeps F.keep) hcd) ?_
  refine wp_of_peekA (o := ({ cls := .type "tuple", data := .seq vs.toArray } : Obj)) F N (X₀.keeps F.keep) rfl _ g₁ hp fun h' F' N' l => ?_
  refine wp_of_peekA (s := { s with heap := h' }) (o := dictOf [] 0) F' N' (X₀.keeps F'.keep) rfl _ (g₂ s.heap.objs.size) (hp₂ _) fun h'' F'' N'' l' => ?_
  rw [hk₂]
  refine wpAny_pure ?_
  exact frameN (s := { s with heap := h'', toks := s.toks }) B F'' N'' T.nolimit hA hf hke (hloc _ _)
    (fun g L' h₁ FG FL NG BG st => h _ _ g L' h₁ _ l (l' _ (.head _)) (F'.notModules (modules_low T.nolimit)) FG FL NG BG (X₀.keeps st) (T.keeps st)) hcell hk
end
end
end Mine
end
/-! TopC -/
section
open PySem PySem.W PyProof.Rows PySem.Calls
namespace Mine
/-- the claim's call of a def with cells, by this text's logic -/
theorem call_cellsNN {prog : Program} {w : World} {A : Around} {R : Result → Shared → Prop} {s : Shared} {name : PySem.Str} {params : Arguments} {body : List Stmt} {scope : Scope}
    {pm cd doc : Value} {a : Addr} {o : Obj} {args : List Value} {binds : List (PySem.Str × Value)}
    (hroom : A.depth < recursionLimit) (ho : s.heap.get? a = some o) (hdata : o.data = .func (Calls.docDef name params body scope pm cd doc)) (hlim : s.heap.NoLimit) (hcd : s.heap.CodeRec cd name)
    (hbind : bindArgs (Calls.docDef name params body scope pm cd doc) ⟨args, []⟩ = pure binds)
    (hkind : ∀ x ∈ binds, scope.names.lookup x.1 = some .local ∨ (scope.names.lookup x.1 = some .cell ∧ ((cellsFrom (s.heap.objs.size + 1) scope.names []).lookup x.1).isSome = true))
    (hnd : ((cellsFrom 0 scope.names []).map (·.1)).Nodup)
    (h : ∀ h₁ tk cells, Fr s.heap s.heap.objs.size h₁ (bindL (envOfC name scope s.heap.objs.size a cd).kindOf binds fun _ => none) → News s.heap s.heap.objs.size h₁ cells →
      CellsAre (bindC (envOfC name scope s.heap.objs.size a cd).kindOf binds fun _ => none) (cellsFrom (s.heap.objs.size + 1) scope.names []) cells →
      wpN (model prog w) (A.deeper (envOfC name scope s.heap.objs.size a cd)) (execs body (envOfC name scope s.heap.objs.size a cd))
        (fun f s' => R (.ok (.ret (match f with | .ret v => v | _ => .none))) s')
        (fun e s' => wpAny (model prog w) (A.deeper (envOfC name scope s.heap.objs.size a cd)) (leaving (envOfC name scope s.heap.objs.size a cd) e)
          (fun _ s'' => R (.error e) s'') (fun e' s'' => R (.error e') s'') s')
        { s with heap := h₁, toks := tk })
    (hco : scope.isCoroutine = false := by rfl) (hgen : scope.isGenerator = false := by rfl) (hk : scope.kind = .function := by rfl) :
    codeN (model prog w) A (.call (.ref a) ⟨args, []⟩) R s := by
  refine codeN_call_function (fd := Calls.docDef name params body scope pm cd doc) (body := body) hroom ho hdata hco hgen rfl hcd ?_
  rw [hbind]
  refine wpAny_pure (wpAny_newFunctionEnv_cells hk hkind fun env he s₁ X => ?_)
  subst he
  refine ⟨hlim.keeps X.toInCall.keep, codeN_func ?_⟩
  obtain ⟨h₁, tk, rfl, _⟩ := X.done
  obtain ⟨cells, N, Y⟩ := Cl.news (h₀ := s.heap) (Nat.le_refl _) fun n c hm => ⟨X.cell n c (lookup_of_mem_nodup (cellsFrom_names scope.names 0 (s.heap.objs.size + 1) [] [] rfl ▸ hnd) hm), X.above n c hm⟩
  exact h h₁ tk cells ⟨X.toInCall.ns, X.toInCall.keep, X.toInCall.fresh⟩ N Y
end Mine
end
/-! TextL -/
section
open PySem PySem.W PyProof.Rows PySem.Calls PySem.NumText
namespace Mine
/-- a text by its signs -/
def lit (l : List Nat) : PySem.Str := ⟨l.toArray⟩
def digs (n : Int) : List Nat := (Nat.toDigits 10 n.toNat).map Char.toNat
def stepL (n : Int) (mk : List Nat) : List Nat := if n < 2147483648 then digs n else digs (n - 2147483648) ++ mk
def tellL (n : Int) : List Nat := 47 :: stepL n [104]
theorem lit_cps (l : List Nat) : (lit l).cps.toList = l := rfl
theorem str_eq {a b : PySem.Str} (h : a.cps.toList = b.cps.toList) : a = b := PySem.Str.ext' (Array.toList_inj.mp h)
theorem lit_of (x : PySem.Str) : x = lit x.cps.toList := str_eq rfl
theorem lit_app (a b : List Nat) : lit a ++ lit b = lit (a ++ b) := str_eq (by rw [KT.app_list]; rfl)
theorem lit_len (l : List Nat) : (lit l).length = l.length := by simp [lit, PySem.Str.length]
theorem str_num {n : Int} (h : 0 ≤ n) : PySem.Str.ofString (toString n) = lit (digs n) := by
  obtain ⟨m, rfl⟩ := Int.eq_ofNat_of_zero_le h
  exact str_eq (KIN.signs_num m)
theorem digs_len {n : Int} (h0 : 0 ≤ n) (h1 : n < 10 ^ 10) : (digs n).length ≤ 10 := by
  have := KT.len_num h0 h1
  rwa [str_num h0, lit_len] at this
theorem digs_all {n : Int} : ∀ c ∈ digs n, 48 ≤ c ∧ c ≤ 57 := by
  intro c hc
  obtain ⟨ch, hch, rfl⟩ := List.mem_map.mp hc
  exact digit_range (Nat.isDigit_of_mem_toDigits (by decide) (by decide) hch)
theorem digs_ne {n : Int} : digs n ≠ [] := by
  intro e
  have h := toDigits_len_ge 10 n.toNat
  rw [List.map_eq_nil_iff.mp e] at h
  exact absurd h (by decide)
theorem digs_val {n : Int} (h : 0 ≤ n) : ((digitsVal (digs n) : Nat) : Int) = n := by
  unfold digs
  rw [KIN.val_back]
  omega
theorem stepL_len {n : Int} {mk : List Nat} (h0 : 0 ≤ n) (h1 : n < 4294967296) (hm : mk.length ≤ 1) : (stepL n mk).length ≤ 11 := by
  unfold stepL
  split
  · have := digs_len h0 (by omega); omega
  · have := digs_len (n := n - 2147483648) (by omega) (by omega)
    rw [List.length_append]; omega
theorem flat_len {α : Type} (f : α → List Nat) (k : Nat) : ∀ ns : List α, (∀ n ∈ ns, (f n).length ≤ k) → (ns.flatMap f).length ≤ k * ns.length
  | [], _ => by simp
  | n :: r, h => by
    rw [List.flatMap_cons, List.length_append, List.length_cons, Nat.mul_succ]
    have h1 := h n (List.mem_cons_self ..)
    have h2 := flat_len f k r fun x hx => h x (List.mem_cons_of_mem _ hx)
    omega
theorem tellL_len {n : Int} (h0 : 0 ≤ n) (h1 : n < 4294967296) : (tellL n).length ≤ 12 := by
  unfold tellL
  rw [List.length_cons]
  have := stepL_len (n := n) (mk := [104]) h0 h1 (by decide)
  omega
theorem flat_take {α : Type} (f : α → List Nat) {ns : List α} {i : Nat} {n : α} (h : ns[i]? = some n) : (ns.take (i + 1)).flatMap f = (ns.take i).flatMap f ++ f n := by
  rw [List.take_add_one, h]; simp
theorem s_m : PySem.Str.ofString "m" = lit [109] := by rfl
theorem s_slash : PySem.Str.ofString "/" = lit [47] := by rfl
theorem s_h : PySem.Str.ofString "h" = lit [104] := by rfl
end Mine
end
/-! Dec -/
section
open PySem PySem.W PyProof.Rows PySem.Calls PySem.Builtin
namespace Mine
theorem forIn_steps {σ : Type} (f : Nat → σ → Sem (ForInStep σ)) (S : Nat → σ) (n : Nat) (hf : ∀ x k, k < n → f x (S k) = pure (.yield (S (k + 1)))) : ∀ (l : List Nat) (k : Nat), k + l.length ≤ n → forIn l (S k) f = pure (S (k + l.length))
  | [], k, _ => rfl
  | x :: l, k, h => by
    rw [List.forIn_cons, hf x k (by simp at h; omega)]
    have := forIn_steps f S n hf l (k + 1) (by simp at h; omega)
    show forIn l (S (k + 1)) f = _
    rw [this, List.length_cons]
    congr 2
    omega
theorem find_ascii {f : Bool} {b : Array UInt8} {p : Nat} (h : (b.getD p 0).toNat < 128) : _codecs.utf8Decoder.find f b p = .text [(b.getD p 0).toNat] (p + 1) := by
  have e : Bytes.utf8At b p = (.char (b.getD p 0).toNat, p + 1) := by
    unfold Bytes.utf8At
    simp only [if_pos h]
  simp only [_codecs.utf8Decoder, e]
  rfl
theorem run_ascii (id : String) (b : Array UInt8) (hb : ∀ c ∈ b.toList, c.toNat < 128) (hl : b.size ≤ 1000) : _codecs.runDecoder id _codecs.utf8Decoder none true b 0 [] = pure ((b.toList.map (·.toNat)).toArray, b.size) := by
  unfold _codecs.runDecoder
  simp only [Std.Legacy.Range.forIn_eq_forIn_range', Std.Legacy.Range.size]
  refine (congrArg (· >>= _) (forIn_steps (σ := Nat × Array Nat × _codecs.Faults) _ (fun k => (k, ((b.toList.take k).map (·.toNat)).toArray, {})) b.size ?_ _ 0 ?_)).trans ?_
  · intro x k hk
    have hk' : b[k]? = some b[k] := by simp [hk]
    have hg : b.getD k 0 = b[k] := by simp [Array.getD, hk]
    have hm : b[k] ∈ b.toList := by simp
    have h1 : (b.getD k 0).toNat < 128 := by rw [hg]; exact hb _ hm
    have h2 : ¬ ((b.toList.take k).map (·.toNat)).toArray.size > sizeLine := by
      rw [List.size_toArray, List.length_map, List.length_take, PySem.sizeLine_eq, Array.length_toList]
      omega
    have h3 : ¬ k ≥ b.size := by omega
    dsimp only
    rw [if_neg h2, if_neg h3, find_ascii h1, hg]
    dsimp only
    congr 4
    rw [List.take_add_one, List.map_append]
    simp [hk]
  · simp
  · simp
    rw [List.take_of_length_le (by simp)]
end Mine
end
/-! Lib2 -/
section
open PySem PySem.W PyProof.Rows PySem.Calls
namespace Mine
section
variable {prog : Program} {w : World} {A : Around} {E : Value → Shared → Prop} {s : Shared} {env : Env} {h₀ : Heap} {m : PySem.Str → Option Value} {news : List (Addr × Obj)} {Q : Flow → Shared → Prop}
/-- the end of a turn of a loop over a list of the ledger's -/
def TurnEnd (h₀ : Heap) (L : Addr) (adr : List Addr) (J : (PySem.Str → Option Value) → List (Addr × Obj) → Prop) (s : Shared) (I : Addr) (oI : Obj) (f : Flow) (s₂ : Shared) : Prop :=
  f = .next ∧ ∃ h' tk' m₂ news₂, s₂ = { s with heap := h', toks := tk' } ∧ Fr h₀ L h' m₂ ∧ News h₀ L h' ((I, oI) :: news₂) ∧ news₂.map (·.1) = adr ∧ J m₂ news₂
theorem TurnEnd.mk {L : Addr} {adr : List Addr} {J : (PySem.Str → Option Value) → List (Addr × Obj) → Prop} {I : Addr} {oI : Obj} {h' : Heap} {tk' : Nat} {m₂ : PySem.Str → Option Value} {news₂ : List (Addr × Obj)}
    (F : Fr h₀ L h' m₂) (N : News h₀ L h' ((I, oI) :: news₂)) (ha : news₂.map (·.1) = adr) (hj : J m₂ news₂) : TurnEnd h₀ L adr J s I oI .next { s with heap := h', toks := tk' } :=
  ⟨rfl, h', tk', m₂, news₂, rfl, F, N, ha, hj⟩
theorem for_led {m₀ : PySem.Str → Option Value} (hFz : Fr h₀ env.locals s.heap m₀) {D : Addr} {vs : List Value} {k : Nat} {x : PySem.Str} {px pos : Pos} {iter : Expr} {body : List Stmt} (J : Nat → (PySem.Str → Option Value) → List (Addr × Obj) → Prop)
    (hx : env.kindOf x = some .local) (hp : (env.scope.kind == .class || (env.scope.kind == .module && env.locals != env.globals)) = false) (hh : A.handled = none)
    (hD : ∀ i m₁ news₁, J i m₁ news₁ → (D, ({ cls := .type "list", data := .seq vs.toArray k } : Obj)) ∈ news₁)
    (hs : ∀ x, foldedSetIterable iter env x = pure x)
    (hE : PassesOwn (model prog w) A env E)
    (h : wpAny (model prog w) A (eval iter env) (fun xv s₁ => xv = .ref D ∧ Stop (∃ m news, Fr h₀ env.locals s₁.heap m ∧ News h₀ env.locals s₁.heap news ∧ J 0 m news ∧
      (∀ i v m₁ news₁ I oI h tk, vs[i]? = some v → J i m₁ news₁ → news₁.map (·.1) = news.map (·.1) → (∀ p ∈ news₁, p.1 ≠ I) → Fr h₀ env.locals h (fun y => if y = x then some v else m₁ y) → News h₀ env.locals h ((I, oI) :: news₁) →
        wpAny (model prog w) A (execs body env) (TurnEnd h₀ env.locals (news.map (·.1)) (J (i + 1)) s₁ I oI) E { s₁ with heap := h, toks := tk }) ∧
      (∀ m₁ news₁ h tk, J vs.length m₁ news₁ → news₁.map (·.1) = news.map (·.1) → Fr h₀ env.locals h m₁ → News h₀ env.locals h news₁ → Q .next { s₁ with heap := h, toks := tk }))) E s) :
    wpAny (model prog w) A (exec (.For (.Name x px) iter body [] pos) env) Q E s := by
  refine For_invV h₀ hx hp (wpAny_mono h (fun xv s₁ h₁ => ?_) fun _ _ e => e) hs hE
  obtain ⟨rfl, m, news, F, N, hj, turn, done⟩ := h₁
  have hl : s₁.heap.IsList D vs.toArray := News.isList N (hD _ _ _ hj)
  have hlt : D < s₁.heap.objs.size := by obtain ⟨_, e, _⟩ := hl; exact Heap.lt_size e
  refine wpAny_pyIter_list hl ?_
  have up : ∀ b o, s₁.heap.get? b = some o → (s₁.heap.push { cls := .type "list_iterator", data := .fields #[.ref D, .int 0 0] }).get? b = some o := fun b o e => Heap.get?_push_of_some _ e
  have W := Walks.list (prog := prog) (w := w) hh s₁.heap.objs.size D (Nat.ne_of_lt hlt) vs.toArray
  have hI₀ : h₀.get? s₁.heap.objs.size = none := next_is_new F
  have hD₀ : h₀.get? D = none := (N _ (hD _ _ _ hj)).2.2
  have hDL : D ≠ env.locals := (N _ (hD _ _ _ hj)).2.1
  have hLI : env.locals ≠ s₁.heap.objs.size := Nat.ne_of_lt F.ns.lt
  refine ⟨_, _, _, _, _, _, m, news, fun i m₁ n₁ => n₁.map (·.1) = news.map (·.1) ∧ J i m₁ n₁, rfl, W, ?_, ?_, ?_, ⟨⟨_, Heap.get?_push_size _ rfl, rfl, rfl⟩, hl.push _⟩, F.push _, N.grown up, ⟨rfl, hj⟩, ?_, ?_⟩
  · intro hm
    rcases List.mem_cons.mp hm with e | hm
    · exact hLI e
    · exact hDL (List.mem_singleton.mp hm).symm
  · intro b hb
    rw [List.mem_singleton.mp hb]
    exact hI₀
  · intro p hp hI
    exact absurd (Heap.lt_size (N p hp).1) ((List.mem_singleton.mp hI) ▸ Nat.lt_irrefl _)
  · rintro i v m₁ news₁ s₂ own ⟨hh', tk', rfl⟩ hin hP ⟨ha, hJ⟩ hoff ho1 ho2 ho3 hst F₁ N₁
    have hv : vs[i]? = some v := by simpa using hP
    obtain ⟨⟨oI, heI, _⟩, hlD⟩ := hst
    have hmI : (s₁.heap.objs.size, oI) ∈ own := ho3 _ (List.mem_cons_self ..) hI₀ _ heI
    have hN : News h₀ env.locals hh' ((s₁.heap.objs.size, oI) :: news₁) := fun p hp => by
      rcases List.mem_cons.mp hp with rfl | hp
      · exact N₁ _ (List.mem_append_left _ hmI)
      · exact N₁ _ (List.mem_append_right _ hp)
    refine wpAny_mono (turn i v m₁ news₁ _ oI hh' tk' hv hJ ha (fun p hp q => hoff p hp (List.mem_singleton.mpr q)) F₁ hN) (fun f s₃ he => ?_) fun _ _ e => e
    obtain ⟨rfl, h', tk₂, m₂, news₂, rfl, F₂, N₂, ha₂, hJ₂⟩ := he
    refine .next ⟨rfl, h', tk₂, m₂, news₂, rfl, F₂, fun p hp => ?_, fun p hp hI => ?_, ha₂, hJ₂⟩
    · rcases List.mem_append.mp hp with hp | hp
      · have hpf := ho1 p hp
        rcases List.mem_cons.mp hpf with e | e
        · have : p.2 = oI := by have := ho2 p hp; rw [e, heI] at this; exact (Option.some.inj this).symm
          have hpe : p = (s₁.heap.objs.size, oI) := Prod.ext e this
          rw [hpe]
          exact N₂ _ (List.mem_cons_self ..)
        · have e := List.mem_singleton.mp e
          have e1 : hh'.get? D = some ({ cls := .type "list", data := .seq vs.toArray k } : Obj) := (hN _ (List.mem_cons_of_mem _ (hD _ _ _ hJ))).1
          have : p.2 = ({ cls := .type "list", data := .seq vs.toArray k } : Obj) := by have := ho2 p hp; rw [e, e1] at this; exact (Option.some.inj this).symm
          have hpe : p = (D, ({ cls := .type "list", data := .seq vs.toArray k } : Obj)) := Prod.ext e this
          rw [hpe]
          exact N₂ _ (List.mem_cons_of_mem _ (hD _ _ _ hJ₂))
      · exact N₂ _ (List.mem_cons_of_mem _ hp)
    · have hm : p.1 ∈ news₂.map (·.1) := List.mem_map_of_mem hp
      rw [ha₂] at hm
      obtain ⟨q, hq, e⟩ := List.mem_map.mp hm
      have hI' := List.mem_singleton.mp hI
      exact absurd (Heap.lt_size (N q hq).1) (by rw [e, hI']; exact Nat.lt_irrefl _)
  · rintro h' tk m' news' F' N' _ ⟨ha, hJ⟩
    exact done m' news' h' tk (by simpa using hJ) ha F' N'
end
end Mine
end
/-! Lib3 -/
section
open PySem PySem.W PyProof.Rows PySem.Calls
namespace Mine
section
variable {prog : Program} {w : World} {A : Around} {E : Value → Shared → Prop} {s : Shared} {h₀ : Heap} {L : Addr} {m : PySem.Str → Option Value} {env : Env}
def BytesSrc (prog : Program) (w : World) (A : Around) (h₀ : Heap) (L : Addr) (m : PySem.Str → Option Value) (env : Env) (elt : Expr) (x : PySem.Str) (scope : Scope) (cl : List (PySem.Str × Addr)) (Q : Value → Shared → Prop) (xv : Value) (s₁ : Shared) : Prop :=
  ∃ (b : Array UInt8) (t : Tok) (news : List (Addr × Obj)), xv = .bytes b t ∧ A.handled = none ∧ Fr h₀ L s₁.heap m ∧ News h₀ L s₁.heap news ∧ b.size ≤ sizeLine ∧
    ∀ s₂ : Shared, (∃ h, s₂ = { s₁ with heap := h }) → LCg.CompRest prog w A h₀ L m env elt x scope cl s₂ (fun _ => True) (fun i v => ∃ c u, b[i]? = some c ∧ v = .int (c.toNat : Int) u) (LCg.FinE h₀ L m s₂ Q) b.size 0 [] news
theorem bytes_st {b : Array UInt8} {t : Tok} {I : Addr} : ∀ (i : Nat) (h h' : Heap) (o : Obj) (nw : List (Addr × Obj)), KBw.IsBytesIter h I b t i → h.get? I = some o → h'.get? I = some o → (∀ b o, h₀.get? b = some o → h'.get? b = some o) → News h₀ L h' nw → True → KBw.IsBytesIter h' I b t i :=
  fun _ _ _ o _ st e e' _ _ _ => by
    obtain ⟨o', ho', r⟩ := st
    rw [e] at ho'
    cases ho'
    exact ⟨o, e', r⟩
/-- a comprehension over the octets of a bytes -/
theorem comp_bytes {elt iter : Expr} {x : PySem.Str} {px : Pos} {scope : Scope} {cl : List (PySem.Str × Addr)} {pos : Pos} {Q : Value → Shared → Prop} (hFz : Fr h₀ L s.heap m)
    (hclos : closureFor scope env = pure cl) (hcell : ∀ y ∈ scope.names, y.2 ≠ .cell) (hkind : scope.kind = .function)
    (hnames : ∀ y ∈ scope.names, y.2 = .local → scope.names.lookup y.1 = some .local) (hx : scope.names.lookup x = some .local)
    (h : wpAny (model prog w) A (eval iter env) (BytesSrc prog w A h₀ L m env elt x scope cl Q) E s)
    (hs : ∀ x, foldedSetIterable iter env x = pure x := by intro _; rfl) :
    wpAny (model prog w) A (eval (.ListComp elt [⟨.Name x px, iter, [], 0⟩] scope pos) env) Q E s := by
  rw [eval_ListComp]
  refine wpAny_comprehension_free (use := none) rfl hs hclos hkind hnames (wpAny_mono h (fun xv s₁ h₁ => ?_) fun _ _ e => e)
  obtain ⟨b, t, news, rfl, hh, F, N, hsz, R⟩ := h₁
  refine KBw.pyIter_bytes ?_
  have up : ∀ a o, s₁.heap.get? a = some o → (s₁.heap.push { cls := .type "bytes_iterator", data := .fields #[.bytes b t, .int 0 0] }).get? a = some o := fun a o e => Heap.get?_push_of_some _ e
  refine LCg.block_U (KBw.walks hh s₁.heap.objs.size b t) hsz (fun i h st => by obtain ⟨o, e, _⟩ := st; exact ⟨o, e⟩) bytes_st hcell hkind hx ⟨_, Heap.get?_push_size _ rfl, rfl, rfl⟩ (fun a ha => ?_)
    (F.keeps up) (N.grown up) (Nat.ne_of_lt F.ns.lt) (next_is_new F) (fun p hp => Nat.ne_of_lt (Heap.lt_size (N p hp).1)) trivial (R _ ⟨_, rfl⟩) ?_
  · rw [List.mem_singleton.mp ha]
    show s₁.heap.objs.size < (s₁.heap.push _).objs.size
    rw [Heap.size_push]; exact Nat.lt_succ_self _
  · intro D C h tk m' ys news' F' N' o1 hn hC₀ hD₀ hCL hDL hCD offC fin
    refine ⟨m', hn, fun h'' hs'' => fin D h'' tk (F'.change hs'' hCL hC₀) (fun p hp => ?_) o1⟩
    refine ⟨hs''.extBut _ _ ?_ (N' p hp).1, (N' p hp).2⟩
    rcases List.mem_cons.mp hp with rfl | hp
    · exact Ne.symm hCD
    · exact offC p hp
/-! ## two clauses -/
theorem turn_outer (elt t1 t2 i1 i2 : Expr) (scope : Scope) (pos : Pos) (it acc : Value) (env : Env) :
    compTurn (.ListComp elt [⟨t1, i1, [], 0⟩, ⟨t2, i2, [], 0⟩] scope pos) 0 it acc env = (standAt i1.pos >>= fun _ => pyNext it >>= fun r => match r with
      | none => pure (.done .next)
      | some v => letOwnedTupleGo t1 it v >>= fun _ => assign t1 env v >>= fun _ =>
        eval i2 env >>= fun x => standAt i2.pos >>= fun _ => foldedSetIterable i2 env x >>= fun x => holding [x] (pyIter x) >>= fun it2 =>
          runOwn (.compStart (.ListComp elt [⟨t1, i1, [], 0⟩, ⟨t2, i2, [], 0⟩] scope pos) 1 it2 acc env) env >>= fun _ =>
          again (.compLoop (.ListComp elt [⟨t1, i1, [], 0⟩, ⟨t2, i2, [], 0⟩] scope pos) 0 it acc env)) := by rfl
theorem turn_inner (elt t1 t2 i1 i2 : Expr) (scope : Scope) (pos : Pos) (it acc : Value) (env : Env) :
    compTurn (.ListComp elt [⟨t1, i1, [], 0⟩, ⟨t2, i2, [], 0⟩] scope pos) 1 it acc env = (standAt i2.pos >>= fun _ => pyNext it >>= fun r => match r with
      | none => pure (.done .next)
      | some v => letOwnedTupleGo t2 it v >>= fun _ => assign t2 env v >>= fun _ =>
        (eval elt env >>= fun x => call (.builtin "list.append") [acc, x] >>= fun _ => pure ()) >>= fun _ =>
          again (.compLoop (.ListComp elt [⟨t1, i1, [], 0⟩, ⟨t2, i2, [], 0⟩] scope pos) 1 it acc env)) := by rfl
theorem hide_at {P : Shared → Prop} {s : Shared} (h : ∀ P' : Shared → Prop, P' = P → P' s) : P s := h P rfl
def EltEnd (h₀ : Heap) (L : Addr) (m : PySem.Str → Option Value) (s : Shared) (led : List (Addr × Obj)) (R : Value → Prop) (y : Value) (s₂ : Shared) : Prop :=
  ∃ h' tk, s₂ = { s with heap := h', toks := tk } ∧ Fr h₀ L h' m ∧ News h₀ L h' led ∧ R y
/-- what the inner source hands on: a tuple of the ledger's, and its turns -/
inductive Inner2 (prog : Program) (w : World) (A : Around) (h₀ : Heap) (L : Addr) (m : PySem.Str → Option Value) (env : Env) (elt : Expr) (x1 x2 : PySem.Str) (scope : Scope) (cl : List (PySem.Str × Addr)) (s : Shared) (n2 : Nat) (v : Value) (I C D : Addr) (oI oC : Obj) (ys : List Value) (news : List (Addr × Obj)) (R : Nat → Value → Prop) (xv : Value) (s₂ : Shared) : Prop
  | mk (its : List Value) (T : Addr) (oT : Obj) (n : Nat) (h' : Heap) (tk : Nat) (e0 : its.length = n2) (e1 : xv = .ref T) (e2 : s₂ = { s with heap := h', toks := tk }) (e3 : oT.cls = .type "tuple") (e4 : oT.data = .seq its.toArray n) (e5 : Fr h₀ L h' m) (e6 : News h₀ L h' ((T, oT) :: (I, oI) :: (C, oC) :: (D, LCg.lst ys) :: news)) (e7 : (∀ p ∈ (I, oI) :: (C, oC) :: (D, LCg.lst ys) :: news, p.1 ≠ T)) (e8 : ∀ j v2 I2 oI2 oC2 m₃ ys2 h3 tk3 (E' : Value → Shared → Prop), its[j]? = some v2 → LCg.NsObj oC2 m₃ → m₃ x1 = some v → m₃ x2 = some v2 → Fr h₀ L h3 m → News h₀ L h3 ((I2, oI2) :: (T, oT) :: (I, oI) :: (C, oC2) :: (D, LCg.lst ys2) :: news) →
      wpAny (model prog w) A (eval elt (compEnvC scope cl C env)) (EltEnd h₀ L m { s with heap := h3, toks := tk3 } ((I2, oI2) :: (T, oT) :: (I, oI) :: (C, oC2) :: (D, LCg.lst ys2) :: news) (R j)) E' { s with heap := h3, toks := tk3 }) : Inner2 prog w A h₀ L m env elt x1 x2 scope cl s n2 v I C D oI oC ys news R xv s₂
theorem start_inner {elt t1 t2 i1 i2 : Expr} {scope : Scope} {pos : Pos} {it acc : Value} {cenv : Env} {R : Result → Shared → Prop}
    (h0 : codeAny (model prog w) A (.compLoop (.ListComp elt [⟨t1, i1, [], 0⟩, ⟨t2, i2, [], 0⟩] scope pos) 1 it acc cenv) R s)
    (h : wpAny (model prog w) A (pyIter it) (fun it' s' => codeAny (model prog w) A (.compLoop (.ListComp elt [⟨t1, i1, [], 0⟩, ⟨t2, i2, [], 0⟩] scope pos) 1 it' acc cenv) R s')
      (notedBy (model prog w) A cenv fun x s' => R (.error x) s') s) :
    codeAny (model prog w) A (.compStart (.ListComp elt [⟨t1, i1, [], 0⟩, ⟨t2, i2, [], 0⟩] scope pos) 1 it acc cenv) R s := by
  refine codeAny_of_tree ?_
  show wpAny _ _ ((compStart (.ListComp elt [⟨t1, i1, [], 0⟩, ⟨t2, i2, [], 0⟩] scope pos) 1 it acc cenv).onRaise (fun x => do noteFrame x cenv; standAt theWindowsPlace)) _ _ s
  refine wpAny_notedAt ?_
  unfold compStart
  show wpAny _ _ (ask >>= _) _ _ s
  refine wpAny_bind (wpAny_askSetting (wpAny_ite ?_))
  split
  · first
      | exact wpAny_bind (wpAny_pure (wpAny_pure (And.intro rfl h0)))
      | exact wpAny_pure (And.intro rfl h0)
  · first
      | exact wpAny_bind (wpAny_rule (wpAny_bind (wpAny_standAt (wpAny_bind (wpAny_mono h (fun it' s' h' => wpAny_pure (And.intro rfl h')) fun _ _ x => x)))))
      | (refine wpAny_bind (wpAny_rule ?_); show wpAny _ _ (standAt _ >>= _) _ _ s; exact wpAny_bind (wpAny_standAt (wpAny_bind (wpAny_mono h (fun it' s' h' => wpAny_pure (And.intro rfl h')) fun _ _ x => x))))
theorem loop_inner {elt t1 t2 i1 i2 : Expr} {scope : Scope} {pos : Pos} {it acc : Value} {cenv : Env} {R : Result → Shared → Prop} (I : Nat → Shared → Prop)
    (turn : ∀ n s, I n s → wpAny (model prog w) A (pyNext it) (fun r s₁ => match r with
      | none => R (.ok .next) s₁
      | some v => wpAny (model prog w) A (assign t2 cenv v) (fun _ s₂ => wpAny (model prog w) A (eval elt cenv) (fun x s₃ =>
          wpAny (model prog w) A (call (.builtin "list.append") [acc, x]) (fun _ s₄ => ∃ m, m < n ∧ I m s₄) (notedBy (model prog w) A cenv fun e s' => R (.error e) s') s₃)
          (notedBy (model prog w) A cenv fun e s' => R (.error e) s') s₂) (notedBy (model prog w) A cenv fun e s' => R (.error e) s') s₁) (notedBy (model prog w) A cenv fun e s' => R (.error e) s') s)
    (n : Nat) (h : I n s) (ht : ∀ v, letOwnedTupleGo t2 it v = pure ()) :
    codeAny (model prog w) A (.compLoop (.ListComp elt [⟨t1, i1, [], 0⟩, ⟨t2, i2, [], 0⟩] scope pos) 1 it acc cenv) R s := by
  refine codeAny_loop rfl I (fun n s hI => ?_) n h
  show wpAny _ _ ((compTurn (.ListComp elt [⟨t1, i1, [], 0⟩, ⟨t2, i2, [], 0⟩] scope pos) 1 it acc cenv).onRaise (fun x => do noteFrame x cenv; theTreesLotGoes x)) _ _ s
  refine wpAny_noted ?_
  rw [turn_inner]
  refine wpAny_bind (wpAny_standAt (wpAny_bind (wpAny_mono (turn n s hI) (fun r s₁ h₁ => ?_) fun _ _ h' => h')))
  cases r with
  | none => exact wpAny_pure h₁
  | some v =>
    refine wpAny_bind (wpAny_of_eq (ht v) ?_)
    exact wpAny_bind (wpAny_mono h₁ (fun _ s₂ h₂ => wpAny_bind (wpAny_bind (wpAny_mono h₂ (fun x s₃ h₃ => wpAny_bind (wpAny_mono h₃
      (fun _ s₄ h₄ => wpAny_pure (wpAny_pure ⟨rfl, h₄⟩)) fun _ _ h' => h')) fun _ _ h' => h'))) fun _ _ h' => h')
theorem loop_outer {elt t1 t2 i1 i2 : Expr} {scope : Scope} {pos : Pos} {it acc : Value} {cenv : Env} {R : Result → Shared → Prop} (I : Nat → Shared → Prop)
    (hs : ∀ x, foldedSetIterable i2 cenv x = pure x)
    (turn : ∀ n s, I n s → wpAny (model prog w) A (pyNext it) (fun r s₁ => match r with
      | none => R (.ok .next) s₁
      | some v => wpAny (model prog w) A (assign t1 cenv v) (fun _ s₂ => wpAny (model prog w) A (eval i2 cenv) (fun x s₃ =>
          wpAny (model prog w) A (pyIter x) (fun it2 s₄ =>
            codeAny (model prog w) A (.compStart (.ListComp elt [⟨t1, i1, [], 0⟩, ⟨t2, i2, [], 0⟩] scope pos) 1 it2 acc cenv) (fun r s' => match r with | .ok _ => ∃ m, m < n ∧ I m s' | .error e => cameBackBy (model prog w) A cenv (notedBy (model prog w) A cenv fun e s' => R (.error e) s') e s') s₄)
          (notedBy (model prog w) A cenv fun e s' => R (.error e) s') s₃)
          (notedBy (model prog w) A cenv fun e s' => R (.error e) s') s₂) (notedBy (model prog w) A cenv fun e s' => R (.error e) s') s₁) (notedBy (model prog w) A cenv fun e s' => R (.error e) s') s)
    (n : Nat) (h : I n s) (ht : ∀ v, letOwnedTupleGo t1 it v = pure ()) :
    codeAny (model prog w) A (.compLoop (.ListComp elt [⟨t1, i1, [], 0⟩, ⟨t2, i2, [], 0⟩] scope pos) 0 it acc cenv) R s := by
  refine codeAny_loop rfl I (fun n s hI => ?_) n h
  show wpAny _ _ ((compTurn (.ListComp elt [⟨t1, i1, [], 0⟩, ⟨t2, i2, [], 0⟩] scope pos) 0 it acc cenv).onRaise (fun x => do noteFrame x cenv; theTreesLotGoes x)) _ _ s
  refine wpAny_noted ?_
  rw [turn_outer]
  refine wpAny_bind (wpAny_standAt (wpAny_bind (wpAny_mono (turn n s hI) (fun r s₁ h₁ => ?_) fun _ _ h' => h')))
  cases r with
  | none => exact wpAny_pure h₁
  | some v =>
    refine wpAny_bind (wpAny_of_eq (ht v) ?_)
    refine wpAny_bind (wpAny_mono h₁ (fun _ s₂ h₂ => wpAny_bind (wpAny_mono h₂ (fun x s₃ h₃ => wpAny_bind (wpAny_standAt (wpAny_bind (wpAny_of_eq (hs x) (wpAny_bind (wpAny_holding (wpAny_mono h₃
      (fun it2 s₄ h₄ => wpAny_bind (wpAny_runOwn (codeAny_mono h₄ fun r s' hr => ?_))) fun _ _ h' => h'))))))) fun _ _ h' => h')) fun _ _ h' => h')
    cases r with
    | error e => exact hr
    | ok f => exact wpAny_pure ⟨rfl, hr⟩
inductive Src2 (prog : Program) (w : World) (A : Around) (h₀ : Heap) (L : Addr) (m : PySem.Str → Option Value) (env : Env) (elt iter2 : Expr) (x1 x2 : PySem.Str) (scope : Scope) (cl : List (PySem.Str × Addr)) (n2 : Nat) (R : Array UInt8 → Nat → Nat → Value → Prop) (Q : Value → Shared → Prop) (xv : Value) (s₁ : Shared) : Prop
  | mk (b : Array UInt8) (t : Tok) (news : List (Addr × Obj)) (e0 : xv = .bytes b t) (e1 : A.handled = none) (e2 : Fr h₀ L s₁.heap m) (e3 : News h₀ L s₁.heap news) (e4 : b.size * n2 ≤ sizeLine) (e5 : (∀ i c u I oI C oC D m₂ ys h tk (E' : Value → Shared → Prop), b[i]? = some c → LCg.NsObj oC m₂ → m₂ x1 = some (.int (c.toNat : Int) u) → Fr h₀ L h m → News h₀ L h ((I, oI) :: (C, oC) :: (D, LCg.lst ys) :: news) → LCg.Off3 I C D news → ((@Ne Nat I C) ∧ (@Ne Nat I D) ∧ (@Ne Nat C D)) →
      wpAny (model prog w) A (eval iter2 (compEnvC scope cl C env)) (Inner2 prog w A h₀ L m env elt x1 x2 scope cl { s₁ with heap := h, toks := tk } n2 (.int (c.toNat : Int) u) I C D oI oC ys news (R b i)) E' { s₁ with heap := h, toks := tk })) (e6 : (∀ D h tk (ys : List Value), ys.length = b.size * n2 → (∀ i j y, j < n2 → ys[i * n2 + j]? = some y → R b i j y) → Fr h₀ L h m → News h₀ L h ((D, LCg.lst ys) :: news) → LCg.Off1 D news → Q (.ref D) { s₁ with heap := h, toks := tk })) : Src2 prog w A h₀ L m env elt iter2 x1 x2 scope cl n2 R Q xv s₁
inductive OInv (h₀ : Heap) (L : Addr) (m : PySem.Str → Option Value) (s₁ : Shared) (b : Array UInt8) (t : Tok) (n2 : Nat) (R : Array UInt8 → Nat → Nat → Value → Prop) (I C D : Addr) (news : List (Addr × Obj)) (k : Nat) (s' : Shared) : Prop
  | mk (h' : Heap) (tk i : Nat) (ys : List Value) (m' : PySem.Str → Option Value) (e0 : s' = { s₁ with heap := h', toks := tk }) (e1 : i ≤ b.size) (e2 : k = b.size + 1 - i) (e3 : ys.length = i * n2) (e4 : (∀ i j y, j < n2 → ys[i * n2 + j]? = some y → R b i j y)) (e5 : KBw.IsBytesIter h' I b t i) (e6 : Fr h₀ L h' m) (e7 : h'.Ns C m') (e8 : News h₀ L h' ((D, LCg.lst ys) :: news)) : OInv h₀ L m s₁ b t n2 R I C D news k s'
/-- the inner loop: `j` turns of the outer loop's turn `i` are done -/
inductive IInv (h₀ : Heap) (L : Addr) (m : PySem.Str → Option Value) (s₁ : Shared) (b : Array UInt8) (its : List Value) (i : Nat) (R : Array UInt8 → Nat → Nat → Value → Prop) (J T I C D : Addr) (x1 : PySem.Str) (v1 : Value) (oT oI : Obj) (news : List (Addr × Obj)) (k : Nat) (s' : Shared) : Prop
  | mk (h' : Heap) (tk j : Nat) (ys2 : List Value) (m2 : PySem.Str → Option Value) (e0 : s' = { s₁ with heap := h', toks := tk }) (e1 : j ≤ its.length) (e2 : k = its.length + 1 - j) (e3 : ys2.length = i * its.length + j) (e4 : ∀ i j y, j < its.length → ys2[i * its.length + j]? = some y → R b i j y) (e5 : h'.IsTupleIter J T j) (e6 : h'.IsTuple T its.toArray) (e7 : Fr h₀ L h' m) (e8 : h'.Ns C m2) (e9 : m2 x1 = some v1) (e10 : News h₀ L h' ((T, oT) :: (I, oI) :: (D, LCg.lst ys2) :: news)) : IInv h₀ L m s₁ b its i R J T I C D x1 v1 oT oI news k s'
theorem sub_step {n j : Nat} (h : j < n) : n + 1 - (j + 1) < n + 1 - j := by omega
theorem idx_eq {i j i' j' n : Nat} (hj : j < n) (hj' : j' < n) (hk : i' * n + j' = i * n + j) : i' = i ∧ j' = j := by
  have hpos : 0 < n := Nat.lt_of_le_of_lt (Nat.zero_le _) hj
  have e1 : (i' * n + j') / n = i' := by rw [Nat.mul_comm, Nat.mul_add_div hpos, Nat.div_eq_of_lt hj']; rfl
  have e2 : (i * n + j) / n = i := by rw [Nat.mul_comm, Nat.mul_add_div hpos, Nat.div_eq_of_lt hj]; rfl
  have e3 : i' = i := by rw [← e1, ← e2, hk]
  subst e3
  exact ⟨rfl, Nat.add_left_cancel hk⟩
theorem each {α : Type} {P : α → Prop} {a : α} {l : List α} (h : P a) (k : ∀ p ∈ l, P p) : ∀ p ∈ a :: l, P p := List.forall_mem_cons.mpr ⟨h, k⟩
theorem led_ext {h₀ h h' : Heap} {L X : Addr} {l : List (Addr × Obj)} (N : ∀ p ∈ l, h.get? p.1 = some p.2 ∧ p.1 ≠ L ∧ h₀.get? p.1 = none) (e : ∀ (a : Addr) (o : Obj), @Ne Nat a X → h.get? a = some o → h'.get? a = some o) (k : ∀ p ∈ l, @Ne Nat p.1 X) :
    ∀ p ∈ l, h'.get? p.1 = some p.2 ∧ p.1 ≠ L ∧ h₀.get? p.1 = none := fun p hp => ⟨e _ _ (k p hp) (N p hp).1, (N p hp).2⟩
theorem comp2 {elt iter iter2 : Expr} {x1 x2 : PySem.Str} {px1 px2 : Pos} {scope : Scope} {cl : List (PySem.Str × Addr)} {pos : Pos} {Q : Value → Shared → Prop} (hFz : Fr h₀ L s.heap m)
    (hclos : closureFor scope env = pure cl) (hcell : ∀ y ∈ scope.names, y.2 ≠ .cell) (hkind : scope.kind = .function)
    (hnames : ∀ y ∈ scope.names, y.2 = .local → scope.names.lookup y.1 = some .local) (hx1 : scope.names.lookup x1 = some .local) (hx2 : scope.names.lookup x2 = some .local) (hne : x1 ≠ x2)
    (n2 : Nat) (R : Array UInt8 → Nat → Nat → Value → Prop)
    (h : wpAny (model prog w) A (eval iter env) (Src2 prog w A h₀ L m env elt iter2 x1 x2 scope cl n2 R Q) E s)
    (hs : ∀ x, foldedSetIterable iter env x = pure x) (hs2 : ∀ C x, foldedSetIterable iter2 (compEnvC scope cl C env) x = pure x) :
    wpAny (model prog w) A (eval (.ListComp elt [⟨.Name x1 px1, iter, [], 0⟩, ⟨.Name x2 px2, iter2, [], 0⟩] scope pos) env) Q E s := by
  rw [eval_ListComp]
  refine wpAny_comprehension_free (use := none) rfl hs hclos hkind hnames (wpAny_mono h (fun xv s₁ h₁ => ?_) fun _ _ e => e)
  refine hide_at (P := wpAny _ _ _ _ _) fun P' hP => ?_
  obtain ⟨b, t, news, rfl, hh, F, N, hsz, turn, fin⟩ := h₁
  subst hP
  refine KBw.pyIter_bytes ?_
  have up : ∀ a o, s₁.heap.get? a = some o → (s₁.heap.push { cls := .type "bytes_iterator", data := .fields #[.bytes b t, .int 0 0] }).get? a = some o := fun a o e => Heap.get?_push_of_some _ e
  have hIg : (s₁.heap.push { cls := .type "bytes_iterator", data := .fields #[.bytes b t, .int 0 0] }).get? s₁.heap.objs.size = some { cls := .type "bytes_iterator", data := .fields #[.bytes b t, .int 0 0] } := Heap.get?_push_size _ rfl
  have hIs : (s₁.heap.push ({ cls := .type "bytes_iterator", data := .fields #[.bytes b t, .int 0 0] } : Obj)).objs.size = s₁.heap.objs.size + 1 := Heap.size_push ..
  have hI₀ : h₀.get? s₁.heap.objs.size = none := next_is_new F
  have hLlt : @LT.lt Nat _ L s₁.heap.objs.size := F.ns.lt
  have F1 := F.keeps up
  have N1 := N.grown up
  have hNlt : ∀ p ∈ news, @LT.lt Nat _ p.1 s₁.heap.objs.size := fun p hp => Heap.lt_size (N p hp).1
  generalize hH1 : s₁.heap.push { cls := .type "bytes_iterator", data := .fields #[.bytes b t, .int 0 0] } = H1 at hIg hIs F1 N1 ⊢
  refine wpAny_newObj_type (wpAny_newFunctionEnv hcell (by intro y hy; simp at hy) (fun h₁ hns₁ hsb₁ => ?_) hkind)
  dsimp only at hns₁ hsb₁ ⊢
  generalize hH2 : H1.push { cls := .type "list", dict := none, data := .seq ([] : List Value).toArray } = H2 at hns₁ hsb₁ ⊢
  have hC : H2.objs.size = H1.objs.size + 1 := by rw [← hH2, Heap.size_push]
  have lt1 : ∀ (a : Nat) (o : Obj), H1.get? a = some o → @LT.lt Nat _ a H1.objs.size := fun a o e => Heap.lt_size e
  have old : ∀ (a : Nat) (o : Obj), H1.get? a = some o → h₁.get? a = some o := fun a o e => by
    have hl := lt1 a o e
    have hne : @Ne Nat a H2.objs.size := by rw [hC]; exact Nat.ne_of_lt (Nat.lt_succ_of_lt hl)
    exact hsb₁.extBut a o hne (Heap.get?_push_of_some _ (hH2 ▸ Heap.get?_push_of_some _ e))
  have hacc : h₁.get? H1.objs.size = some (LCg.lst []) := by
    have hne : @Ne Nat H1.objs.size H2.objs.size := by rw [hC]; exact Nat.ne_of_lt (Nat.lt_succ_self _)
    exact hsb₁.extBut _ _ hne (Heap.get?_push_of_some _ (by rw [← hH2]; exact Heap.get?_push_size _ rfl))
  have hD₀ : h₀.get? H1.objs.size = none := by
    cases e : h₀.get? H1.objs.size with
    | none => rfl
    | some o => exact absurd (lt1 _ _ (F1.keep _ _ e)) (Nat.lt_irrefl _)
  have hC₀ : h₀.get? H2.objs.size = none := by
    cases e : h₀.get? H2.objs.size with
    | none => rfl
    | some o => exact absurd (lt1 _ _ (F1.keep _ _ e)) (by rw [hC]; exact Nat.not_lt.mpr (Nat.le_succ _))
  generalize hI : s₁.heap.objs.size = I at hIg hIs hI₀ hLlt hNlt ⊢
  generalize hD' : H1.objs.size = D at hIs hC lt1 hacc hD₀ ⊢
  generalize hC' : H2.objs.size = C at hC hC₀ hns₁ hsb₁ ⊢
  have lID : @LT.lt Nat _ I D := hIs ▸ Nat.lt_succ_self I
  have lDC : @LT.lt Nat _ D C := hC ▸ Nat.lt_succ_self D
  have lIC : @LT.lt Nat _ I C := Nat.lt_trans lID lDC
  have hCL : @Ne Nat C L := Nat.ne_of_gt (Nat.lt_trans hLlt lIC)
  have hDL : @Ne Nat D L := Nat.ne_of_gt (Nat.lt_trans hLlt lID)
  have hIL : @Ne Nat I L := Nat.ne_of_gt hLlt
  have hCI : @Ne Nat I C := Nat.ne_of_lt lIC
  have hDI : @Ne Nat I D := Nat.ne_of_lt lID
  have hCD : @Ne Nat C D := Nat.ne_of_gt lDC
  have nI : ∀ p ∈ news, @Ne Nat p.1 I := fun p hp => Nat.ne_of_lt (hNlt p hp)
  have nC : ∀ p ∈ news, @Ne Nat p.1 C := fun p hp => Nat.ne_of_lt (Nat.lt_trans (hNlt p hp) lIC)
  have nD : ∀ p ∈ news, @Ne Nat p.1 D := fun p hp => Nat.ne_of_lt (Nat.lt_trans (hNlt p hp) lID)
  have off3 : LCg.Off3 I C D news := LCg.Off3.of fun p hp => ⟨nI p hp, nC p hp, nD p hp⟩
  have W := KBw.walks (prog := prog) (w := w) hh I b t
  have key : codeAny (model prog w) A (.compLoop (.ListComp elt [⟨.Name x1 px1, iter, [], 0⟩, ⟨.Name x2 px2, iter2, [], 0⟩] scope pos) 0 (.ref I) (.ref D) (compEnvC scope cl C env)) (compPost (model prog w) A E none Q (.ref D) C)
      { s₁ with heap := h₁, toks := s₁.toks + ([] : List (PySem.Str × Value)).length } := by
    refine loop_outer
      (OInv h₀ L m s₁ b t n2 R I C D news)
      (hs2 C) ?_ (b.size + 1) ⟨h₁, _, 0, [], _, rfl, Nat.zero_le _, rfl, by simp, by intro i j y hj hy; simp at hy, ⟨_, old _ _ hIg, rfl, rfl⟩, F1.keeps old, hns₁, ?_⟩ (by intro _; rfl)
    · intro k s' hO
      refine hide_at (P := wpAny _ _ _ _ _) fun P' hP => ?_
      obtain ⟨h', tk, i, ys, m', rfl, hi, rfl, hyl, hyc, hst', F', hn', N'⟩ := hO
      subst hP
      by_cases hlt : i < b.size
      · refine W.item i _ _ _ hlt hst' fun v h₂ tk₂ hPv hst₂ hk₂ => ?_
        obtain ⟨c, u, hc, rfl⟩ := hPv
        refine wpAny_assign_Name (wpAny_storeName_local (lookup_relabel_local hx1) (hn'.at' fun o e => hk₂ _ o (by simpa using Ne.symm hCI) e) (fun h₃ hn₃ hs₃ => ?_) (by simp [compEnvC, relabel, hkind]))
        have hst₃ : KBw.IsBytesIter h₃ I b t (i + 1) := W.frame _ _ _ hst₂ fun a ha o e => hs₃.extBut a o (by rw [List.mem_singleton.mp ha]; exact hCI) e
        obtain ⟨oI, heI, _⟩ := id hst₃
        obtain ⟨oC, heC, hoC⟩ := LCg.ns_obj hn₃
        have F₃ : Fr h₀ L h₃ m := (LCg.fr_but F' hk₂ (Ne.symm hIL) hI₀).change hs₃ hCL hC₀
        have N₂ : News h₀ L h₂ ((D, LCg.lst ys) :: news) := LCg.news_but N' hk₂ (each (Ne.symm hDI) nI)
        have N₃ : News h₀ L h₃ ((I, oI) :: (C, oC) :: (D, LCg.lst ys) :: news) :=
          each ⟨heI, hIL, hI₀⟩ (each ⟨heC, hCL, hC₀⟩ (led_ext N₂ hs₃.extBut (each (Ne.symm hCD) nC)))
        refine wpAny_mono (turn i c u I oI C oC D _ ys h₃ _ _ hc hoC (by simp) F₃ N₃ off3 ⟨hCI, hDI, hCD⟩) (fun xv s₄ h₄ => ?_) fun _ _ e => e
        refine hide_at (P := wpAny _ _ _ _ _) fun P' hP => ?_
        obtain ⟨its, T, oT, n, h₄, tk₄, hits, rfl, rfl, hT1, hT2, F₄, N₄, hT, inner⟩ := h₄
        subst hP
        subst hits
        have zT := N₄ (T, oT) List.mem_cons_self
        have hTup : h₄.IsTuple T its.toArray := ⟨oT, zT.1, hT1, n, hT2⟩
        refine wpAny_pyIter_tuple hTup ?_
        have lt4 : ∀ p ∈ (T, oT) :: (I, oI) :: (C, oC) :: (D, LCg.lst ys) :: news, @LT.lt Nat _ p.1 h₄.objs.size := fun p hp => Heap.lt_size (N₄ p hp).1
        have hL4 : @LT.lt Nat _ L h₄.objs.size := F₄.ns.lt
        have hTI : @Ne Nat I T := hT (I, oI) List.mem_cons_self
        have hTC : @Ne Nat C T := hT (C, oC) (List.mem_cons_of_mem _ List.mem_cons_self)
        have hTD : @Ne Nat D T := hT (D, LCg.lst ys) (List.mem_cons_of_mem _ (List.mem_cons_of_mem _ List.mem_cons_self))
        have ltT : @LT.lt Nat _ T h₄.objs.size := lt4 _ List.mem_cons_self
        have ltI : @LT.lt Nat _ I h₄.objs.size := lt4 _ (List.mem_cons_of_mem _ List.mem_cons_self)
        have ltC : @LT.lt Nat _ C h₄.objs.size := lt4 _ (List.mem_cons_of_mem _ (List.mem_cons_of_mem _ List.mem_cons_self))
        have ltD : @LT.lt Nat _ D h₄.objs.size := lt4 _ (List.mem_cons_of_mem _ (List.mem_cons_of_mem _ (List.mem_cons_of_mem _ List.mem_cons_self)))
        have ltN : ∀ p ∈ news, @LT.lt Nat _ p.1 h₄.objs.size := fun p hp => lt4 p (List.mem_cons_of_mem _ (List.mem_cons_of_mem _ (List.mem_cons_of_mem _ (List.mem_cons_of_mem _ hp))))
        have hJ₀ : h₀.get? h₄.objs.size = none := next_is_new F₄
        have up4 : ∀ a o, h₄.get? a = some o → (h₄.push { cls := .type "tuple_iterator", data := .fields #[.ref T, .int 0 0] }).get? a = some o := fun a o e => Heap.get?_push_of_some _ e
        have hJg : (h₄.push { cls := .type "tuple_iterator", data := .fields #[.ref T, .int 0 0] }).get? h₄.objs.size = some { cls := .type "tuple_iterator", data := .fields #[.ref T, .int 0 0] } := Heap.get?_push_size _ rfl
        have F5 := F₄.keeps up4
        have N5 := N₄.grown up4
        have hTup5 : (h₄.push { cls := .type "tuple_iterator", data := .fields #[.ref T, .int 0 0] }).IsTuple T its.toArray := ⟨oT, up4 _ _ zT.1, hT1, n, hT2⟩
        dsimp only at hJg F5 N5 hTup5 ⊢
        generalize h₄.push { cls := .type "tuple_iterator", data := .fields #[.ref T, .int 0 0] } = H5 at hJg F5 N5 hTup5 ⊢
        generalize h₄.objs.size = J at ltT ltI ltC ltD ltN hL4 hJ₀ hJg ⊢
        have hJL : @Ne Nat J L := Nat.ne_of_gt hL4
        have hJT : @Ne Nat T J := Nat.ne_of_lt ltT
        have hJI : @Ne Nat I J := Nat.ne_of_lt ltI
        have hJC : @Ne Nat C J := Nat.ne_of_lt ltC
        have hJD : @Ne Nat D J := Nat.ne_of_lt ltD
        have nJ : ∀ p ∈ news, @Ne Nat p.1 J := fun p hp => Nat.ne_of_lt (ltN p hp)
        have W2 := Walks.tuple (prog := prog) (w := w) hh J T hJT its.toArray
        have nsC5 : H5.Ns C (fun y => if y = x1 then some (.int (c.toNat : Int) u) else m' y) := hoC.ns (N5 (C, oC) (List.mem_cons_of_mem _ (List.mem_cons_of_mem _ List.mem_cons_self))).1
        have key2 : codeAny (model prog w) A (.compLoop (.ListComp elt [⟨.Name x1 px1, iter, [], 0⟩, ⟨.Name x2 px2, iter2, [], 0⟩] scope pos) 1 (.ref J) (.ref D) (compEnvC scope cl C env))
            (fun r s' => match r with | .ok _ => ∃ k, k < b.size + 1 - i ∧ OInv h₀ L m s₁ b t its.length R I C D news k s' | .error e => cameBackBy (model prog w) A (compEnvC scope cl C env) (notedBy (model prog w) A (compEnvC scope cl C env) fun e s' => compPost (model prog w) A E none Q (.ref D) C (.error e) s') e s')
            { s₁ with heap := H5, toks := tk₄ } := by
          refine loop_inner
            (IInv h₀ L m s₁ b its i R J T I C D x1 (.int (c.toNat : Int) u) oT oI news)
            ?_ (its.length + 1) ⟨H5, tk₄, 0, ys, _, rfl, Nat.zero_le _, rfl, by rw [hyl]; rfl, hyc, ⟨_, hJg, rfl, rfl⟩, hTup5, F5, nsC5, by simp, ?_⟩ (by intro _; rfl)
          · intro k2 s2 hO2
            refine hide_at (P := wpAny _ _ _ _ _) fun P' hP => ?_
            obtain ⟨h6, tk6, j, ys2, m2, rfl, hj, rfl, hyl2, hyc2, hit6, htup6, F6, ns6, hm6, N6⟩ := hO2
            subst hP
            by_cases hjlt : j < its.length
            · refine W2.item j _ _ _ (by simpa using hjlt) ⟨hit6, htup6⟩ fun v2 h7 tk7 hPv2 hst7 hk7 => ?_
              have hv2 : its[j]? = some v2 := by simpa using hPv2
              refine wpAny_assign_Name (wpAny_storeName_local (lookup_relabel_local hx2) (ns6.at' fun o e => hk7 _ o (by simpa using hJC) e) (fun h8 hn8 hs8 => ?_) (by simp [compEnvC, relabel, hkind]))
              have hst8 : h8.IsTupleIter J T (j + 1) ∧ h8.IsTuple T its.toArray := W2.frame _ _ _ hst7 fun a ha o e => hs8.extBut a o (by
                rcases List.mem_cons.mp ha with rfl | ha
                · exact Ne.symm hJC
                · rw [List.mem_singleton.mp ha]; exact Ne.symm hTC) e
              obtain ⟨oJ, heJ, _⟩ := id hst8.1
              obtain ⟨oC2, heC2, hoC2⟩ := LCg.ns_obj hn8
              have F8 : Fr h₀ L h8 m := (LCg.fr_but F6 hk7 (Ne.symm hJL) hJ₀).change hs8 hCL hC₀
              have N7 : News h₀ L h7 ((T, oT) :: (I, oI) :: (D, LCg.lst ys2) :: news) := LCg.news_but N6 hk7 (each hJT (each hJI (each hJD nJ)))
              have N8 : ∀ p ∈ (T, oT) :: (I, oI) :: (D, LCg.lst ys2) :: news, h8.get? p.1 = some p.2 ∧ p.1 ≠ L ∧ h₀.get? p.1 = none :=
                led_ext N7 hs8.extBut (each (Ne.symm hTC) (each hCI (each (Ne.symm hCD) nC)))
              have N8' : News h₀ L h8 ((J, oJ) :: (T, oT) :: (I, oI) :: (C, oC2) :: (D, LCg.lst ys2) :: news) :=
                each ⟨heJ, hJL, hJ₀⟩ (each (N8 _ List.mem_cons_self) (each (N8 _ (List.mem_cons_of_mem _ List.mem_cons_self)) (each ⟨heC2, hCL, hC₀⟩ fun p hp => N8 p (List.mem_cons_of_mem _ (List.mem_cons_of_mem _ hp)))))
              refine wpAny_mono (inner j v2 J oJ oC2 _ ys2 h8 _ _ hv2 hoC2 (by simp [hne, hm6]) (by simp) F8 N8') (fun y s9 h9 => ?_) fun _ _ e => e
              refine hide_at (P := wpAny _ _ _ _ _) fun P' hP => ?_
              obtain ⟨h9, tk9, rfl, F9, N9, hr⟩ := h9
              subst hP
              have zD := (N9 (D, LCg.lst ys2) (List.mem_cons_of_mem _ (List.mem_cons_of_mem _ (List.mem_cons_of_mem _ (List.mem_cons_of_mem _ List.mem_cons_self))))).1
              have zC := (N9 (C, oC2) (List.mem_cons_of_mem _ (List.mem_cons_of_mem _ (List.mem_cons_of_mem _ List.mem_cons_self)))).1
              have zJ := (N9 (J, oJ) List.mem_cons_self).1
              have zT9 := N9 (T, oT) (List.mem_cons_of_mem _ List.mem_cons_self)
              have zI9 := N9 (I, oI) (List.mem_cons_of_mem _ (List.mem_cons_of_mem _ List.mem_cons_self))
              have hsz2 : ys2.length ≤ sizeLine := by
                rw [hyl2]
                exact Nat.le_trans (Nat.add_le_add_left hj _) (Nat.le_trans (Nat.le_of_eq (Nat.succ_mul i its.length).symm) (Nat.le_trans (Nat.mul_le_mul_right _ hlt) hsz))
              refine append_at (hsz := by show ys2.toArray.size ≤ sizeLine; rw [List.size_toArray]; exact hsz2) zD fun h10 hs10 hD10 => ?_
              have ext10 : ∀ (a : Nat) (o : Obj), @Ne Nat a D → h9.get? a = some o → h10.get? a = some o := fun a o hne e => hs10.extBut a o hne e
              refine ⟨its.length + 1 - (j + 1), sub_step hjlt, h10, tk9, j + 1, ys2 ++ [y], _, rfl, hjlt, rfl, by rw [List.length_append, List.length_singleton, hyl2]; exact Nat.add_assoc _ _ _, ?_, ?_, ?_, F9.change hs10 hDL hD₀, hoC2.ns (ext10 _ _ hCD zC), by simp [hne, hm6], ?_⟩
              · intro i' j' z hj' hz
                rcases Nat.lt_trichotomy (i' * its.length + j') ys2.length with hk | hk | hk
                · rw [List.getElem?_append_left hk] at hz
                  exact hyc2 i' j' z hj' hz
                · rw [hk, List.getElem?_append_right (Nat.le_refl _), Nat.sub_self] at hz
                  cases hz
                  have hij : i' = i ∧ j' = j := idx_eq hjlt hj' (hk.trans hyl2)
                  rw [hij.1, hij.2]
                  exact hr
                · rw [List.getElem?_eq_none (by rw [List.length_append, List.length_singleton]; exact hk)] at hz
                  cases hz
              · obtain ⟨o', ho', r⟩ := hst8.1
                rw [heJ] at ho'
                cases ho'
                exact ⟨_, ext10 _ _ (Ne.symm hJD) zJ, r⟩
              · exact ⟨oT, ext10 _ _ (Ne.symm hTD) zT9.1, hT1, n, hT2⟩
              · exact each ⟨ext10 _ _ (Ne.symm hTD) zT9.1, zT9.2⟩ (each ⟨ext10 _ _ hDI zI9.1, zI9.2⟩ (each ⟨hD10.trans (congrArg some (LCg.lst_snoc ys2 y)), hDL, hD₀⟩
                  (led_ext (fun p hp => N9 p (List.mem_cons_of_mem _ (List.mem_cons_of_mem _ (List.mem_cons_of_mem _ (List.mem_cons_of_mem _ (List.mem_cons_of_mem _ hp)))))) ext10 nD)))
            · obtain rfl : j = its.length := Nat.le_antisymm hj (Nat.not_lt.mp hjlt)
              refine W2.done _ _ _ (by simpa using ⟨hit6, htup6⟩) fun h7 tk7 hk7 => ?_
              have k7 : ∀ (a : Nat) (o : Obj), @Ne Nat a J → h6.get? a = some o → h7.get? a = some o := fun a o hne e => hk7 a o (by simpa using hne) e
              have zI6 := N6 (I, oI) (List.mem_cons_of_mem _ List.mem_cons_self)
              refine ⟨b.size + 1 - (i + 1), sub_step hlt, h7, tk7, i + 1, ys2, m2, rfl, hlt, rfl, by rw [hyl2, Nat.succ_mul], hyc2, ?_, LCg.fr_but F6 hk7 (Ne.symm hJL) hJ₀, ns6.at' fun o e => k7 _ o hJC e, ?_⟩
              · obtain ⟨o', ho', r⟩ := hst₃
                rw [heI] at ho'
                cases ho'
                exact ⟨_, k7 _ _ hJI zI6.1, r⟩
              · exact led_ext (fun p hp => N6 p (List.mem_cons_of_mem _ (List.mem_cons_of_mem _ hp))) k7 (each hJD nJ)
          · exact each (N5 _ List.mem_cons_self) (each (N5 _ (List.mem_cons_of_mem _ List.mem_cons_self)) fun p hp => N5 p (List.mem_cons_of_mem _ (List.mem_cons_of_mem _ (List.mem_cons_of_mem _ hp))))
        exact start_inner key2 (W2.self 0 _ _ _ ⟨⟨_, hJg, rfl, rfl⟩, hTup5⟩ key2)
      · obtain rfl : i = b.size := Nat.le_antisymm hi (Nat.not_lt.mp hlt)
        refine W.done _ _ _ hst' fun h₂ tk₂ hk₂ => ?_
        have k2 : ∀ (a : Nat) (o : Obj), @Ne Nat a I → h'.get? a = some o → h₂.get? a = some o := fun a o hne e => hk₂ a o (by simpa using hne) e
        refine ⟨m', hn'.at' fun o e => k2 _ o (Ne.symm hCI) e, fun h'' hs'' => fin D h'' tk₂ ys hyl hyc ((LCg.fr_but F' hk₂ (Ne.symm hIL) hI₀).change hs'' hCL hC₀) (fun p hp => ?_) off3.one⟩
        have z := N' p hp
        rcases List.mem_cons.mp hp with rfl | hp
        · exact ⟨hs''.extBut _ _ (Ne.symm hCD) (k2 _ _ (Ne.symm hDI) z.1), z.2⟩
        · exact ⟨hs''.extBut _ _ (nC p hp) (k2 _ _ (nI p hp) z.1), z.2⟩
    · intro p hp
      rcases List.mem_cons.mp hp with rfl | hp
      · exact ⟨hacc, hDL, hD₀⟩
      · have z := N1 p hp
        exact ⟨old _ _ z.1, z.2⟩
  exact codeAny_compStart_list key (W.self 0 _ _ _ ⟨_, old _ _ hIg, rfl, rfl⟩ key)
end
end Mine
end
/-! NStm -/
section
open PySem PySem.W PyProof.Rows PySem.Calls PyProof.V PySem.Spec
namespace Mine
section
variable {M : Model} {A : Around} {s : Shared} {env : Env} {E : Value → Shared → Prop}
theorem wpN_keep {α : Type} {vs : List Value} {m : Sem α} {Q : α → Shared → Prop} (h : wpN M A m Q E s) : wpN M A (m.keep vs) Q E s :=
  fun Γ p hΓ hf => by rw [Sem.wp_keep]; exact h Γ p hΓ hf
theorem wpN_operate {vs : List Value} {m : Sem Value} {Q : Value → Shared → Prop} (h : wpN M A m Q E s) : wpN M A (operate vs m) Q E s := fun Γ p hΓ hf => by
  rw [Sem.wp_operate]; exact h Γ p hΓ hf
theorem wpN_bindm {α β : Type} {m : Sem α} {f : α → Sem β} {P : α → Shared → Prop} {Q : β → Shared → Prop} (h : wpN M A m P E s) (k : ∀ a s', P a s' → wpN M A (f a) Q E s') : wpN M A (m >>= f) Q E s :=
  wpN_bind (wpN_mono h k fun _ _ e => e)
theorem wpN_at {α : Type} {p : Pos} {f : Unit → Sem α} {Q : α → Shared → Prop} (h : wpN M A (f ()) Q E s) : wpN M A (standAt p >>= f) Q E s := wpN_then (wpAny_standAt h)
/-! statements -/
theorem N_cons {st : Stmt} {rest : List Stmt} {Q : Flow → Shared → Prop}
    (h : wpN M A (exec st env) (fun f s' => match f with | .next => wpN M A (execs rest env) Q E s' | f => Q f s') E s) : wpN M A (execs (st :: rest) env) Q E s := by
  rw [arm_execs_cons]
  refine wpN_bindm h fun f s' h' => ?_
  cases f <;> first | exact h' | exact wpN_pure h'
theorem N_nil {Q : Flow → Shared → Prop} (h : Q .next s) : wpN M A (execs [] env) Q E s := wpN_pure h
/-- the first statements by the library's logic, the others by this one -/
theorem N_pre {st : Stmt} {rest : List Stmt} {Q : Flow → Shared → Prop}
    (h : wpAny M A (exec st env) (fun f s' => match f with | .next => wpN M A (execs rest env) Q E s' | f => Q f s') E s) : wpN M A (execs (st :: rest) env) Q E s := N_cons (wpN_lift h)
theorem N_If {test : Expr} {body orelse : List Stmt} {pos : Pos} {Q : Flow → Shared → Prop}
    (h : wpN M A (isTrue test env (eval test env)) (fun b s₂ => if b then wpN M A (execs body env) Q E s₂ else wpN M A (execs orelse env) Q E s₂) E s) : wpN M A (exec (.If test body orelse pos) env) Q E s := by
  rw [exec_If]
  refine wpN_at (wpN_bindm h fun b s₂ h₂ => ?_)
  cases b <;> exact h₂
theorem N_Return {e : Expr} {pos : Pos} {Q : Flow → Shared → Prop} (h : wpN M A (eval e env) (fun v => Q (.ret v)) E s) : wpN M A (exec (.Return (some e) pos) env) Q E s := by
  rw [exec_Return_some]
  exact wpN_at (wpN_bindm h fun v s₂ h₂ => wpN_pure h₂)
theorem N_Assign_Name {x : PySem.Str} {pos' pos : Pos} {value : Expr} {Q : Flow → Shared → Prop}
    (h : wpN M A (eval value env) (fun v s₁ => wpAny M A (storeName env x v) (fun _ => Q .next) E s₁) E s)
    (hs : swapsWith value (some (.Name x pos')) pos.line env = pure false := by rfl) : wpN M A (exec (.Assign [.Name x pos'] value pos) env) Q E s := by
  rw [exec_Assign_Name env x pos' value pos hs]
  exact wpN_at (wpN_bindm h fun v s₁ h₁ => wpN_at (wpN_then (wpAny_bindName (wpAny_mono h₁ (fun _ s₂ h₂ => wpN_pure h₂) fun _ _ e => e))))
theorem N_AugAssign_Name {x : PySem.Str} {pos' pos : Pos} {op : Operator} {value : Expr} {Q : Flow → Shared → Prop}
    (h : wpAny M A (loadName env x) (fun old s₁ => wpN M A (eval value env) (fun v s₂ => wpAny M A (inplaceOp op old v)
      (fun r s₃ => wpAny M A (storeName env x r) (fun _ => Q .next) E s₃) E s₂) E s₁) E s) : wpN M A (exec (.AugAssign (.Name x pos') op value pos) env) Q E s := by
  rw [exec_AugAssign_Name]
  exact wpN_at (wpN_then (wpAny_mono h (fun old s₁ h₁ => wpN_bindm (wpN_holding h₁) fun v s₂ h₂ => wpN_at (wpN_bindm (wpN_operate (wpN_lift h₂)) fun r s₃ h₃ =>
    wpN_at (wpN_then (wpAny_bindName (wpAny_mono h₃ (fun _ s₄ h₄ => wpN_pure h₄) fun _ _ e => e))))) fun _ _ e => e))
theorem N_Assign_Attribute {o : Expr} {attr : PySem.Str} {pos' pos : Pos} {value : Expr} {Q : Flow → Shared → Prop}
    (h : wpN M A (eval value env) (fun v s₁ => wpAny M A (eval o env) (fun ov s₂ => wpAny M A (setAttr ov attr v) (fun _ => Q .next) E s₂) E s₁) E s)
    (hs : swapsWith value (some (.Attribute o attr pos')) pos.line env = pure false := by rfl) : wpN M A (exec (.Assign [.Attribute o attr pos'] value pos) env) Q E s := by
  rw [plainObj_exec_Assign_Attribute o attr pos' value pos hs]
  refine wpN_at (wpN_bindm h fun v s₁ h₁ => ?_)
  refine wpN_bind (wpN_of_eq (arm_assign_Attribute ..) (wpN_then (wpAny_holding (wpAny_mono h₁ (fun ov s₂ h₂ => wpN_at (wpN_then (wpAny_holding (wpAny_mono h₂ (fun _ s₃ h₃ => ?_) fun _ _ e => e)))) fun _ _ e => e))))
  exact wpN_lift (fun Γ p hΓ => by rw [Sem.wp_release]; exact wpN_pure h₃)
/-- a store by a key: the store itself by this text's logic -/
theorem N_Assign_Subscript {o i value : Expr} {pos' pos : Pos} {Q : Flow → Shared → Prop}
    (h : wpAny M A (eval value env) (fun v s₁ => wpAny M A (eval o env) (fun ov s₂ => wpAny M A (eval i env) (fun iv s₃ => wpN M A (setItem ov iv v) (fun _ => Q .next) E s₃) E s₂) E s₁) E s)
    (hs : swapsWith value (some (.Subscript o i pos')) pos.line env = pure false := by rfl) : wpN M A (exec (.Assign [.Subscript o i pos'] value pos) env) Q E s := by
  rw [exec_Assign_Subscript o i pos' value pos hs]
  refine wpN_at (wpN_then (wpAny_mono h (fun v s₁ h₁ => ?_) fun _ _ e => e))
  refine wpN_bind (wpN_of_eq (arm_assign_Subscript ..) (wpN_then (wpAny_holding (wpAny_mono h₁ (fun ov s₂ h₂ => wpN_then (wpAny_holding (wpAny_mono h₂ (fun iv s₃ h₃ => wpN_at (wpN_bindm (wpN_holding h₃) fun _ s₄ h₄ => ?_)) fun _ _ e => e))) fun _ _ e => e))))
  exact wpN_lift (fun Γ p hΓ => by rw [Sem.wp_release]; exact wpN_pure h₄)
theorem N_Expr {prog : Program} {w : World} {e : Expr} {pos : Pos} {Q : Flow → Shared → Prop} (h : wpN (model prog w) A (eval e env) (fun _ => Q .next) E s)
    (hi : interactive env = false := by rfl) (hs : swapsWith e none pos.line env = pure false := by rfl) : wpN (model prog w) A (exec (.Expr e pos) env) Q E s := by
  rw [exec_Expr env e pos hi hs]
  exact wpN_at (wpN_bindm h fun v s' h' => wpN_lift (wpAny_dropValue h'))
/-! expressions -/
theorem N_IfExp {test body orelse : Expr} {pos : Pos} {Q : Value → Shared → Prop}
    (h : wpN M A (isTrue test env (eval test env)) (fun b s₂ => if b then wpN M A (eval body env) Q E s₂ else wpN M A (eval orelse env) Q E s₂) E s) : wpN M A (eval (.IfExp test body orelse pos) env) Q E s := by
  rw [arm_eval_IfExp]
  refine wpN_bindm h fun b s₂ h₂ => ?_
  cases b <;> exact h₂
theorem N_Not {x : Expr} {pos : Pos} {Q : Value → Shared → Prop} (h : wpN M A (eval x env) (fun v s' => wpAny M A (unaryOp .Not v) Q E s') E s) : wpN M A (eval (.UnaryOp .Not x pos) env) Q E s := by
  rw [arm_eval_UnaryOp]
  exact wpN_bindm h fun v s' h' => wpN_at (wpN_holding (wpN_lift h'))
theorem N_Compare1 {l r : Expr} {op : CmpOp} {pos : Pos} {Q : Value → Shared → Prop}
    (h : wpN M A (eval l env) (fun a s₁ => wpN M A (eval r env) (fun b s₂ => wpN M A (compareOp op a b) Q E s₂) E s₁) E s)
    (hm : behindInMarks op r = false := by with_unfolding_all rfl) : wpN M A (eval (.Compare l [op] [r] pos) env) Q E s := by
  rw [eval_Compare1, markedBehindIn_of_false hm]
  exact wpN_bindm h fun a s₁ h₁ => wpN_bindm (wpN_holding h₁) fun b s₂ h₂ => wpN_at (wpN_operate h₂)
theorem N_true_Compare1 {l r : Expr} {op : CmpOp} {pos : Pos} {whole : Sem Value} {Q : Bool → Shared → Prop}
    (h : wpN M A (eval l env) (fun a s₁ => wpN M A (eval r env) (fun b s₂ => wpN M A (compareOp op a b) (fun c s₃ => wpAny M A (truthy c) Q E s₃) E s₂) E s₁) E s)
    (hm : behindInMarks op r = false := by with_unfolding_all rfl) : wpN M A (isTrue (.Compare l [op] [r] pos) env whole) Q E s := by
  rw [isTrue_Compare1, markedBehindIn_of_false hm]
  exact wpN_bindm h fun a s₁ h₁ => wpN_bindm (wpN_holding h₁) fun b s₂ h₂ => wpN_at (wpN_bindm (wpN_operate h₂) fun c s₃ h₃ => wpN_holding (wpN_lift h₃))
theorem N_true_Bool {op : BoolOp} {values : List Expr} {pos : Pos} {whole : Sem Value} {Q : Bool → Shared → Prop} (h : wpN M A (allTrue op values env) Q E s) : wpN M A (isTrue (.BoolOp op values pos) env whole) Q E s := h
theorem N_all_nil {op : BoolOp} {Q : Bool → Shared → Prop} (h : Q (op == .And) s) : wpN M A (allTrue op [] env) Q E s := wpN_pure h
theorem N_or {x : Expr} {rest : List Expr} {Q : Bool → Shared → Prop} (h : wpN M A (isTrue x env (eval x env)) (fun b s' => if b then Q true s' else wpN M A (allTrue .Or rest env) Q E s') E s) : wpN M A (allTrue .Or (x :: rest) env) Q E s := by
  rw [arm_allTrue_cons]
  refine wpN_bindm h fun b s' h' => ?_
  cases b
  · exact h'
  · exact wpN_pure h'
theorem N_and_cons {x y : Expr} {rest : List Expr} {pos : Pos} {Q : Value → Shared → Prop} (h : wpN M A (eval x env) (fun v s₁ => wpAny M A (truthy v) (fun b s₂ => if b then wpN M A (boolOp pos .And (evalEach (y :: rest) env)) Q E s₂ else Q v s₂) E s₁) E s) :
    wpN M A (boolOp pos .And (evalEach (x :: y :: rest) env)) Q E s := by
  show wpN M A (eval x env >>= fun v => standAt pos >>= fun _ => holding [v] (truthy v) >>= fun t => match BoolOp.And, t with | .And, false | .Or, true => pure v | _, _ => boolOp pos .And (evalEach (y :: rest) env)) Q E s
  refine wpN_bindm h fun v s₁ h₁ => wpN_at (wpN_bindm (wpN_holding (wpN_lift h₁)) fun b s₂ h₂ => ?_)
  cases b
  · exact wpN_pure h₂
  · exact h₂
theorem N_and_last {x : Expr} {pos : Pos} {Q : Value → Shared → Prop} (h : wpN M A (eval x env) Q E s) : wpN M A (boolOp pos .And (evalEach [x] env)) Q E s := h
theorem N_BoolAnd {values : List Expr} {pos : Pos} {Q : Value → Shared → Prop} (h : wpN M A (boolOp pos .And (evalEach values env)) Q E s) : wpN M A (eval (.BoolOp .And values pos) env) Q E s := h
/-! calls -/
theorem N_callWith {P : Heap → Prop} {f : Value} {pos : Pos} {first : List Value} {args : List (Bool × Sem Value)} {keywords : List (Option PySem.Str × Sem Value)} {Q : Value → Shared → Prop}
    (hk : ∀ h, P h → ∃ k, Looks M h (keeperOf f) k)
    (h : wpAny M A (evalArgs f true args keywords) (fun a s₁ => P s₁.heap ∧ wpN M A (call f (first ++ a.pos) a.kw) Q E s₁) E s) : wpN M A (callWith pos f first args keywords) Q E s := by
  unfold callWith
  refine wpN_then (wpAny_holding (wpAny_mono h (fun a s₁ h₁ => wpN_at ?_) fun _ _ x => x))
  obtain ⟨k, L⟩ := hk _ h₁.1
  refine wpN_then (L.here ?_)
  have tail : ∀ {t : Sem Value}, wpN M A t Q E s₁ → wpN M A (t >>= fun r => holding [r] point >>= fun _ => pure r) Q E s₁ :=
    fun ht => wpN_bindm ht fun r s₂ hr => wpN_then (wpAny_holding (wpAny_point (wpN_pure hr)))
  have marked (mk : Value) : wpN M A (callMarked mk f (first ++ a.pos) a.kw) Q E s₁ := by unfold callMarked; exact wpN_keep h₁.2
  generalize (args.any (·.1) || keywords.any (·.1.isNone)) = st
  cases k <;> cases st <;> dsimp only <;> first | exact tail h₁.2 | exact tail (marked _) | exact tail (wpN_operate h₁.2) | (split <;> first | exact tail h₁.2 | exact tail (marked _))
theorem N_callWith_p {P : Heap → Prop} {f : Value} {pos : Pos} {first : List Value} {e : Expr} {rest : List Expr} {Q : Value → Shared → Prop}
    (hk : ∀ h, P h → ∃ k, Looks M h (keeperOf f) k)
    (h : wpAny M A (spliced (backTo pos (starEach (e :: rest) env))) (fun vs s₁ => P s₁.heap ∧ wpN M A (call f (first ++ vs)) Q E s₁) E s)
    (he : starEach (e :: rest) env = (false, eval e env) :: starEach rest env := by rfl) : wpN M A (callWith pos f first (backTo pos (starEach (e :: rest) env)) (backToKw pos (keywordEach [] env))) Q E s := by
  refine N_callWith hk ?_
  rw [he] at h ⊢
  exact evalArgs_plain h
theorem N_callWith_0 {P : Heap → Prop} {f : Value} {pos : Pos} {first : List Value} {Q : Value → Shared → Prop}
    (hk : ∀ h, P h → ∃ k, Looks M h (keeperOf f) k) (hp : P s.heap)
    (h : wpN M A (call f first) Q E s) : wpN M A (callWith pos f first (backTo pos (starEach [] env)) (backToKw pos (keywordEach [] env))) Q E s := by
  refine N_callWith hk ?_
  exact evalArgs_kw_nil (keywords := []) rfl (wpAny_evalAll_nil ⟨hp, by simpa using h⟩)
theorem keeps_ty {T : String} (h : Heap) (_ : True) : ∃ k, Looks M h (keeperOf (.type T)) k := ⟨_, Looks.now⟩
theorem N_Call_Name {id : PySem.Str} {p pos : Pos} {args : List Expr} {keywords : List Keyword} {Q : Value → Shared → Prop}
    (h : wpAny M A (eval (.Name id p) env) (fun f s₁ => wpN M A (callWith pos f [] (backTo pos (starEach args env)) (backToKw pos (keywordEach keywords env))) Q E s₁) E s) :
    wpN M A (eval (.Call (.Name id p) args keywords pos) env) Q E s := by
  rw [arm_eval_Call_Name']
  exact wpN_then h
theorem N_Call_Meth {o : Expr} {name : PySem.Str} {apos pos : Pos} {args : List Expr} {kws : List Keyword} {pl : Sem Bool} {Q : Value → Shared → Prop}
    (h : wpAny M A (eval o env) (fun ov s₁ => wpAny M A (getMethod ov name pl) (fun fx s₂ => wpN M A (callWith pos fx.1 fx.2 (backTo pos (starEach args env)) (backToKw pos (keywordEach kws env))) Q E s₂) E s₁) E s)
    (he : eval (.Call (.Attribute o name apos) args kws pos) env = (do
      let ov ← eval o env
      standAt apos.atName
      let (f, first) ← holding [ov] (getMethod ov name pl)
      callWith pos f first (backTo pos (starEach args env)) (backToKw pos (keywordEach kws env))) := by rfl) :
    wpN M A (eval (.Call (.Attribute o name apos) args kws pos) env) Q E s := by
  rw [he]
  exact wpN_then (wpAny_mono h (fun ov s₁ h₁ => wpN_at (wpN_then (wpAny_holding h₁))) fun _ _ x => x)
end
section
variable {prog : Program} {w : World} {A : Around} {E : Value → Shared → Prop} {s : Shared} {env : Env} {h₀ : Heap} {m : PySem.Str → Option Value} {news : List (Addr × Obj)}
theorem block_nilN {R : Result → Shared → Prop} (h : R (.ok .next) s) : codeN (model prog w) A (.block [] env) R s := by
  refine codeN_of_tree rfl ?_
  show wpN _ _ (do return Fin.done (← (execs [] env).onRaise (fun x => do noteFrame x env; theTreesLotGoes x))) _ _ s
  exact wpN_bind (wpN_onRaise (wpN_pure (wpN_pure h)))
theorem loopN {R : Result → Shared → Prop} {x : PySem.Str} {px : Pos} {body : List Stmt} {I D : Addr} {vs : List Value} {k : Nat} {adr : List Addr} (hIL : env.locals ≠ I) (hDI : D ≠ I)
    (J : Nat → (PySem.Str → Option Value) → List (Addr × Obj) → Prop) (hx : env.kindOf x = some .local) (hp : (env.scope.kind == .class || (env.scope.kind == .module && env.locals != env.globals)) = false) (hh : A.handled = none)
    (hI₀ : h₀.get? I = none) (hadr : ∀ b ∈ adr, b ≠ I)
    (hD : ∀ i m₁ news₁, J i m₁ news₁ → (D, ({ cls := .type "list", data := .seq vs.toArray k } : Obj)) ∈ news₁) (s₁ : Shared)
    (turn : ∀ i v m₁ news₁ I oI h tk, vs[i]? = some v → J i m₁ news₁ → news₁.map (·.1) = adr → (∀ p ∈ news₁, p.1 ≠ I) → Fr h₀ env.locals h (fun y => if y = x then some v else m₁ y) → News h₀ env.locals h ((I, oI) :: news₁) →
        wpN (model prog w) A (execs body env) (TurnEnd h₀ env.locals adr (J (i + 1)) s₁ I oI) (fun _ _ => False) { s₁ with heap := h, toks := tk })
    (done : ∀ m₁ news₁ h tk, J vs.length m₁ news₁ → news₁.map (·.1) = adr → Fr h₀ env.locals h m₁ → News h₀ env.locals h news₁ → R (.ok .next) { s₁ with heap := h, toks := tk }) :
    ∀ n i m₁ news₁ h tk, i + n = vs.length → h.IsListIter I D i → J i m₁ news₁ → news₁.map (·.1) = adr → Fr h₀ env.locals h m₁ → News h₀ env.locals h news₁ →
      codeN (model prog w) A (.forLoop (.Name x px) (.ref I) body [] env) R { s₁ with heap := h, toks := tk } := by
  intro n
  induction n with
  | zero =>
    intro i m₁ news₁ h tk hi hit hJ ha F N
    refine codeN_of_tree rfl ?_
    show wpN _ _ ((forTurn (.Name x px) (.ref I) body [] env).onRaise (fun x => do noteFrame x env; theTreesLotGoes x)) _ _ _
    refine wpN_onRaise ?_
    unfold forTurn
    refine wpN_at ?_
    have W := Walks.list (prog := prog) (w := w) hh I D hDI vs.toArray
    have hl : h.IsList D vs.toArray := News.isList N (hD _ _ _ hJ)
    refine wpN_then (wpAny_onRaise (W.done _ _ _ (by rw [show vs.toArray.size = i by simp; omega]; exact ⟨hit, hl⟩) fun h' tk' hk => ?_))
    refine wpN_pure ⟨rfl, block_nilN ?_⟩
    have hne : ∀ p ∈ news₁, p.1 ∉ [I] := fun p hp q => hadr _ (ha ▸ List.mem_map_of_mem hp) (List.mem_singleton.mp q)
    refine done m₁ news₁ h' tk' (by rw [show vs.length = i by omega]; exact hJ) ha ?_ ?_
    · exact ⟨F.ns.at' fun o e => hk _ o (fun q => hIL (List.mem_singleton.mp q)) e, fun b o e => hk b o (fun q => by rw [List.mem_singleton.mp q, hI₀] at e; cases e) (F.keep b o e), F.above⟩
    · exact fun p hp => ⟨hk _ _ (hne p hp) (N p hp).1, (N p hp).2⟩
  | succ n ih =>
    intro i m₁ news₁ h tk hi hit hJ ha F N
    refine codeN_of_tree rfl ?_
    show wpN _ _ ((forTurn (.Name x px) (.ref I) body [] env).onRaise (fun x => do noteFrame x env; theTreesLotGoes x)) _ _ _
    refine wpN_onRaise ?_
    unfold forTurn
    refine wpN_at ?_
    have W := Walks.list (prog := prog) (w := w) hh I D hDI vs.toArray
    have hl : h.IsList D vs.toArray := News.isList N (hD _ _ _ hJ)
    refine wpN_then (wpAny_onRaise (W.item i _ _ _ (by simp; omega) ⟨hit, hl⟩ fun v h' tk' hv hst hk => ?_))
    have hne : ∀ p ∈ news₁, p.1 ∉ [I] := fun p hp q => hadr _ (ha ▸ List.mem_map_of_mem hp) (List.mem_singleton.mp q)
    have F₁ : Fr h₀ env.locals h' m₁ := ⟨F.ns.at' fun o e => hk _ o (fun q => hIL (List.mem_singleton.mp q)) e, fun b o e => hk b o (fun q => by rw [List.mem_singleton.mp q, hI₀] at e; cases e) (F.keep b o e), F.above⟩
    have N₁ : News h₀ env.locals h' news₁ := fun p hp => ⟨hk _ _ (hne p hp) (N p hp).1, (N p hp).2⟩
    refine wpN_then (wpAny_pure ?_)
    refine wpN_then (wpAny_assign_Name (wpAny_storeName_local hx F₁.ns (fun h₂ hn₂ hs₂ => ?_) hp))
    have F₂ := F₁.set hn₂ hs₂
    have N₂ := N₁.set hs₂
    obtain ⟨oI, heI, hI1, hI2⟩ := hst.1
    have heI₂ : h₂.get? I = some oI := (hs₂.2 I fun q => hIL q.symm).trans heI
    have hN : News h₀ env.locals h₂ ((I, oI) :: news₁) := fun p hp => by
      rcases List.mem_cons.mp hp with rfl | hp
      · exact ⟨heI₂, fun q => hIL q.symm, hI₀⟩
      · exact N₂ _ hp
    refine wpN_bindm (P := TurnEnd h₀ env.locals adr (J (i + 1)) s₁ I oI) (wpN_mono (turn i v m₁ news₁ I oI h₂ _ (by simpa using hv) hJ ha (fun p hp q => hne p hp (List.mem_singleton.mpr q)) F₂ hN) (fun _ _ e => e) fun _ _ e => e.elim) fun f s₃ he => ?_
    obtain ⟨rfl, h₃, tk₃, m₂, news₂, rfl, F₃, N₃, ha₃, hJ₃⟩ := he
    refine wpN_pure ⟨rfl, ?_⟩
    exact ih (i + 1) m₂ news₂ h₃ tk₃ (by omega) ⟨oI, (N₃ _ (List.mem_cons_self ..)).1, hI1, hI2⟩ hJ₃ ha₃ F₃ (fun p hp => N₃ p (List.mem_cons_of_mem _ hp))
/-- a loop over a list of the ledger's -/
theorem N_For {m₀ : PySem.Str → Option Value} (hFz : Fr h₀ env.locals s.heap m₀) {Q : Flow → Shared → Prop} {D : Addr} {vs : List Value} {k : Nat} {x : PySem.Str} {px pos : Pos} {iter : Expr} {body : List Stmt} (J : Nat → (PySem.Str → Option Value) → List (Addr × Obj) → Prop)
    (hx : env.kindOf x = some .local) (hp : (env.scope.kind == .class || (env.scope.kind == .module && env.locals != env.globals)) = false) (hh : A.handled = none)
    (hD : ∀ i m₁ news₁, J i m₁ news₁ → (D, ({ cls := .type "list", data := .seq vs.toArray k } : Obj)) ∈ news₁)
    (hs : ∀ x, foldedSetIterable iter env x = pure x)
    (h : wpAny (model prog w) A (eval iter env) (fun xv s₁ => xv = .ref D ∧ Stop (∃ m news, Fr h₀ env.locals s₁.heap m ∧ News h₀ env.locals s₁.heap news ∧ J 0 m news ∧
      (∀ i v m₁ news₁ I oI h tk, vs[i]? = some v → J i m₁ news₁ → news₁.map (·.1) = news.map (·.1) → (∀ p ∈ news₁, p.1 ≠ I) → Fr h₀ env.locals h (fun y => if y = x then some v else m₁ y) → News h₀ env.locals h ((I, oI) :: news₁) →
        wpN (model prog w) A (execs body env) (TurnEnd h₀ env.locals (news.map (·.1)) (J (i + 1)) s₁ I oI) (fun _ _ => False) { s₁ with heap := h, toks := tk }) ∧
      (∀ m₁ news₁ h tk, J vs.length m₁ news₁ → news₁.map (·.1) = news.map (·.1) → Fr h₀ env.locals h m₁ → News h₀ env.locals h news₁ → Q .next { s₁ with heap := h, toks := tk }))) E s) :
    wpN (model prog w) A (exec (.For (.Name x px) iter body [] pos) env) Q E s := by
  rw [exec_For]
  refine wpN_at (wpN_then (wpAny_mono h (fun xv s₁ h₁ => ?_) fun _ _ e => e))
  obtain ⟨rfl, m, news, F, N, hj, turn, done⟩ := h₁
  have hl : s₁.heap.IsList D vs.toArray := News.isList N (hD _ _ _ hj)
  have hlt : D < s₁.heap.objs.size := by obtain ⟨_, e, _⟩ := hl; exact Heap.lt_size e
  rw [hs]
  refine wpN_bind (wpN_pure (wpN_at (wpN_then (wpAny_holding (wpAny_pyIter_list hl ?_)))))
  unfold runOwn
  refine wpN_onRaise (wpN_run ?_)
  have up : ∀ b o, s₁.heap.get? b = some o → (s₁.heap.push { cls := .type "list_iterator", data := .fields #[.ref D, .int 0 0] }).get? b = some o := fun b o e => Heap.get?_push_of_some _ e
  exact loopN (Nat.ne_of_lt F.ns.lt) (Nat.ne_of_lt hlt) J hx hp hh (next_is_new F) (fun b hb q => by
      obtain ⟨p, hp, e⟩ := List.mem_map.mp hb
      exact absurd (Heap.lt_size (N p hp).1) (by rw [e, q]; exact Nat.lt_irrefl _)) hD s₁ turn done vs.length 0 m news _ s₁.toks (by omega) ⟨_, Heap.get?_push_size _ rfl, rfl, rfl⟩ hj rfl (F.push _) (N.grown up)
theorem led_grow {h₀ h h' : Heap} {L : Addr} {m : PySem.Str → Option Value} (F : Fr h₀ L h m) (k : ∀ b o, h.get? b = some o → h'.get? b = some o) : Fr h₀ L h' m :=
  ⟨F.ns.at' fun o e => k _ o e, fun b o e => k b o (F.keep b o e), F.above⟩
theorem led_add {h₀ h h' : Heap} {L : Addr} {m : PySem.Str → Option Value} {news : List (Addr × Obj)} {o : Obj} (F : Fr h₀ L h m) (N : News h₀ L h news) (k : ∀ b o, h.get? b = some o → h'.get? b = some o)
    (hx : h'.get? h.objs.size = some o) : News h₀ L h' ((h.objs.size, o) :: news) := fun p hp => by
  rcases List.mem_cons.mp hp with rfl | hp
  · exact ⟨hx, (Nat.ne_of_lt F.ns.lt).symm, next_is_new F⟩
  · exact N.grown k p hp
theorem led_lt {h₀ h : Heap} {L : Addr} {news : List (Addr × Obj)} (N : News h₀ L h news) : ∀ p ∈ news, p.1 < h.objs.size := fun p hp => Heap.lt_size (N p hp).1
theorem led_sub {h₀ h : Heap} {L : Addr} {l r : List (Addr × Obj)} (N : News h₀ L h l) (e : ∀ p ∈ r, p ∈ l) : News h₀ L h r := fun p hp => N p (e p hp)
theorem subl_cons {α : Type} {a : α} {r l : List α} (h : a ∈ l) (k : ∀ p ∈ r, p ∈ l) : ∀ p ∈ a :: r, p ∈ l := fun p hp => (List.mem_cons.mp hp).elim (fun e => e ▸ h) (k p)
theorem subl_nil {α : Type} {l : List α} : ∀ p ∈ ([] : List α), p ∈ l := fun _ h => nomatch h
/-- the inner names of a stream made by BytesIO -/
abbrev bioD (w : World) (bx : Addr) (p : Int) (t1 t2 t3 : Tok) : Obj :=
  dictOf [{ hash := PyData.keyHash w.params "_BytesIO__buf", key := .str "_BytesIO__buf" t1, val := .ref bx }, { hash := PyData.keyHash w.params "_BytesIO__pos", key := .str "_BytesIO__pos" t2, val := .int p t3 }] 2
end
end Mine
end
/-! LawD -/
section
open PySem PySem.W PyProof.Rows PySem.Calls
namespace Mine
/-- the law's own body and names, as the program has them -/
def lawParts : List Stmt × Scope := match PySem.Challenge.pw_ci0003_01.main.body.getLast? with
  | some (.FunctionDef _ _ body _ _ _ scope _ _ _) => (body, scope)
  | _ => ([], { kind := .function, names := [], isGenerator := false, isCoroutine := false })
def lawBody : List Stmt := lawParts.1
def lawScope : Scope := lawParts.2
abbrev lawCl (L : Addr) : List (PySem.Str × Addr) := [(PySem.Str.ofString "mark", L + 3), (PySem.Str.ofString "steps", L + 2), (PySem.Str.ofString "head", L + 1)]
theorem lawCl_is (L : Addr) : cellsFrom (L + 1) lawScope.names [] = lawCl L := by rfl
abbrev lawE (L a : Addr) (ccd : Value) : Env := envX (PySem.Str.ofString "law") lawScope L a ccd (lawCl L)
abbrev lawA (dp un : Nat) (L a : Addr) (ccd : Value) (outer : List Env) : Around := ktrTop dp un (some []) (PySem.Str.ofString "law") lawScope L a ccd (lawCl L) outer
/-- the numbers that the script gives -/
def numsOf (ns : List Int) : List Int := (ns.take 9).map fun k => if k < 0 then -k else k
/-- one step of the path, by a number of the script -/
def stepOf (n : Int) : Int := [n.fmod 4294967296, 2147483648 + n.fmod 100, n.fmod 100, 2147483647 + n.fmod 3, 4294967295 - n.fmod 3].getD ((n.fdiv 3).fmod 5).toNat 0
section
variable {prog : Program} {w : World} {A : Around} {E : Value → Shared → Prop} {s : Shared} {t u : Tok} {Q : Value → Shared → Prop}
theorem pow32 (h : Q (.int 4294967296 s.toks) { s with toks := s.toks + 1 }) : wpAny (model prog w) A (binaryOp .Pow (.int 2 t) (.int 32 u)) Q E s :=
  pow_int_small (by decide) (by decide) (by decide) h
theorem pow31 (h : Q (.int 2147483648 s.toks) { s with toks := s.toks + 1 }) : wpAny (model prog w) A (binaryOp .Pow (.int 2 t) (.int 31 u)) Q E s :=
  pow_int_small (by decide) (by decide) (by decide) h
theorem sub_list {value slice : Expr} {l : Addr} {vs : List Value} {k : Int} {v : Value} (hl : s.heap.IsList l vs.toArray) (h0 : 0 ≤ k) (hhi : k < 2 ^ 63) (hx : vs[k.toNat]? = some v) (h : Q v s)
    (hs : subscripted slice false (.ref l) (.int k u) = operate [.ref l, .int k u] (getItem (.ref l) (.int k u)) := by with_unfolding_all rfl) :
    wpAny (model prog w) A (subscriptTail value slice (.ref l) (.int k u)) Q E s :=
  tail_any hl.typeIs slot_list_getitem.lookup (wpAny_getItem_list hl h0 hhi (by simpa using hx) h) hs
end
theorem ints_pick {vs : List Value} {ns : List Int} (h : IntsAre vs ns) {i : Nat} (hi : i < ns.length) : ∃ t : Tok, vs[i]? = some (.int (ns.getD i 0) t) := by
  have hl := h.length
  have e : vs[i]? = some (vs[i]'(by omega)) := List.getElem?_eq_getElem (by omega)
  obtain ⟨n, t, hv, hn⟩ := IntsAre.at h i _ e
  refine ⟨t, e.trans ?_⟩
  rw [hv, List.getD_eq_getElem?_getD, hn]
  rfl
/-- the path's numbers -/
def pathOf (nums : List Int) : List Int := ((nums.drop 1).take 6).map stepOf
theorem cut17 (nums : List Int) : (nums.drop 1).take (min 7 nums.length - 1) = (nums.drop 1).take 6 := by
  rcases Nat.lt_or_ge nums.length 7 with h | h
  · rw [List.take_of_length_le (i := 6) (by rw [List.length_drop]; omega), List.take_of_length_le (by rw [List.length_drop]; omega)]
  · rw [show min 7 nums.length - 1 = 6 by omega]
section
variable {M : Model} {A : Around} {E : Value → Shared → Prop} {s : Shared} {h₀ : Heap} {L a D : Addr} {m : PySem.Str → Option Value} {ccd v : Value} {v₀ : Option Value} {o1 o2 o3 od : Obj} {Q : Unit → Shared → Prop} {news : List (Addr × Obj)}
theorem m32 (L : Nat) : L + 3 ≠ L + 2 := by omega
theorem n32 : @Ne Nat (L + 3) (L + 2) := m32 L
theorem m31 (L : Nat) : L + 3 ≠ L + 1 := by omega
theorem n31 : @Ne Nat (L + 3) (L + 1) := m31 L
theorem m21 (L : Nat) : L + 2 ≠ L + 1 := by omega
theorem n21 : @Ne Nat (L + 2) (L + 1) := m21 L
theorem store_steps (F : Fr h₀ L s.heap m) (N : News h₀ L s.heap ((D, od) :: [(L + 3, o1), (L + 2, o2), (L + 1, o3)])) (aD : @Ne Nat D (L + 2)) (d2 : o2.data = .cell v₀)
    (h : ∀ h' o', Fr h₀ L h' m → News h₀ L h' ((D, od) :: [(L + 3, o1), (L + 2, o'), (L + 1, o3)]) → o'.data = .cell (some v) → Q () { s with heap := h' }) :
    wpAny M A (storeName (lawE L a ccd) (PySem.Str.ofString "steps") v) Q E s :=
  storeX_C F N rfl (.tail aD (.tail n32 (.head (List.forall_mem_cons.mpr ⟨Ne.symm n21, fun _ h => nomatch h⟩)))) d2 h rfl rfl
theorem store_mark (F : Fr h₀ L s.heap m) (N : News h₀ L s.heap ((D, od) :: [(L + 3, o1), (L + 2, o2), (L + 1, o3)])) (aD : @Ne Nat D (L + 3)) (d1 : o1.data = .cell v₀)
    (h : ∀ h' o', Fr h₀ L h' m → News h₀ L h' ((D, od) :: [(L + 3, o'), (L + 2, o2), (L + 1, o3)]) → o'.data = .cell (some v) → Q () { s with heap := h' }) :
    wpAny M A (storeName (lawE L a ccd) (PySem.Str.ofString "mark") v) Q E s :=
  storeX_C F N rfl (.tail aD (.head (List.forall_mem_cons.mpr ⟨Ne.symm n32, List.forall_mem_cons.mpr ⟨Ne.symm n31, fun _ h => nomatch h⟩⟩))) d1 h rfl rfl
end
/-- the fingerprint's octets -/
def octOf (hn : Int) (i : Nat) : Int := (hn.fdiv (256 ^ i) + 16 * (i : Int)).fmod 256
def nameInts (hn : Int) : List Int := [octOf hn 0, octOf hn 1, octOf hn 2, octOf hn 3]
def nameOf (hn : Int) : Array UInt8 := byteArr (nameInts hn)
theorem octOf_in (hn : Int) (i : Nat) : 0 ≤ octOf hn i ∧ octOf hn i < 256 := ⟨Int.fmod_nonneg_of_pos _ (by decide), Int.fmod_lt_of_pos _ (by decide)⟩
theorem nameOf_size (hn : Int) : (nameOf hn).size = 4 := by rfl
end Mine
end
section
local macro_rules | `(tactic| walk_at "True") => `(tactic| trivial)
theorem Mine.anew_La1 : True := by
  w_top off
  walk1
end
/-! La1 -/
section
open PySem PySem.W PyProof.Rows PySem.Calls
namespace Mine
theorem law_1 {w : World} {dp un : Nat} {a : Addr} {ccd : Value} {outer : List Env} {A₀ : Around} {base h₀ : Heap} {L : Addr} {mg mb : PySem.Str → Option Value} {mean : ExcName → Option Value} {loose : List PySem.Str} {s : Shared} {Q : Flow → Shared → Prop} {E : Value → Shared → Prop}
    (B : Below A₀ base outer h₀) (X : (hd.heap_39 w.params).In h₀) (T : Top hd.view_39 loose mean mg mb h₀) {l : Addr} {o1 o2 o3 : Obj} {vs : List Value} {ns : List Int} {u : PySem.Str → Option Value}
    (F : Fr h₀ L s.heap (fun y => if y = PySem.Str.ofString "script" then some (.ref l) else u y)) (N : News h₀ L s.heap [(L + 3, o1), (L + 2, o2), (L + 1, o3)])
    (d1 : o1.data = .cell none) (d2 : o2.data = .cell none) (d3 : o3.data = .cell none)
    (hl : h₀.IsList l vs.toArray) (hI : IntsAre vs ns) (hns : ns.length ≤ 63)
    (hnext : ∀ (D : Addr) (vs' : List Value) (k : Nat) (t : Tok) (o3 : Obj) (u' : PySem.Str → Option Value) (h' : Heap) (tk' : Nat), o3.data = .cell (some (.int ((numsOf ns).headD 0) t)) → Fr h₀ L h' (fun y => if y = PySem.Str.ofString "numbers" then some (.ref D) else u' y) →
      News h₀ L h' ((D, ({ cls := .type "list", data := .seq vs'.toArray k } : Obj)) :: [(L + 3, o1), (L + 2, o2), (L + 1, o3)]) → IntsAre vs' (numsOf ns) → @Ne Nat D (L + 3) → @Ne Nat D (L + 2) → @Ne Nat D (L + 1) →
      wpN (model PySem.Challenge.rw_ci0003_01.row.prog w) (lawA dp un L a ccd outer) (execs (lawBody.drop 2) (lawE L a ccd)) Q E { s with heap := h', toks := tk' }) :
    wpN (model PySem.Challenge.rw_ci0003_01.row.prog w) (lawA dp un L a ccd outer) (execs lawBody (lawE L a ccd)) Q E s := by
  revert X; k_fill; intro X
  dsimp only [lawA, lawE]
  rw [show lawScope = ⟨_, _, _, _, _⟩ from rfl]
  refine N_pre ?_
  k_steps
  refine N_pre ?_
  k_steps
  · rename IntsAre ys _ => I9
    rename News _ _ _ _ => N9
    rename Fr _ _ _ _ => F9
    rename _ ∧ _ ∧ _ => o9
    rename 0 < _ => p9
    rename Obj => o8
    rename o8.data = _ => d8
    have e : (numsOf ns).headD 0 = ((ns.take 9).map fun k => if k < 0 then -k else k).getD (Int.toNat 0) 0 := by
      show ((ns.take 9).map fun k => if k < 0 then -k else k).headD 0 = _
      cases ((ns.take 9).map fun k => if k < 0 then -k else k) <;> rfl
    rw [← e] at d8
    refine hnext _ ys ys.length _ _ _ _ _ d8 F9 (led_sub N9 ?_) I9 (Ne.symm o9.2.1) (Ne.symm o9.2.2.1) (Ne.symm o9.2.2.2)
    repeat (refine subl_cons (by k_mem) ?_)
    exact subl_nil
  · rename IntsAre ys _ => I9
    rename News _ _ _ _ => N9
    rename Fr _ _ _ _ => F9
    rename _ ∧ _ ∧ _ => o9
    rename ¬ 0 < _ => p9
    rename Obj => o8
    rename o8.data = _ => d8
    have e : (numsOf ns).headD 0 = 0 := by
      have e2 : numsOf ns = [] := List.eq_nil_of_length_eq_zero (by unfold numsOf; omega)
      rw [e2]
      rfl
    rw [← e] at d8
    refine hnext _ ys ys.length _ _ _ _ _ d8 F9 (led_sub N9 ?_) I9 (Ne.symm o9.2.1) (Ne.symm o9.2.2.1) (Ne.symm o9.2.2.2)
    repeat (refine subl_cons (by k_mem) ?_)
    exact subl_nil
end Mine
end
/-! Jby -/
section
open PySem PySem.W PyProof.Rows PySem.Calls PyProof.V PySem.Spec
namespace Mine
namespace Jb
theorem slot : Slot "bytes" "join" "bytes.join" :=
  .of (owner := "bytes") (n := "join") (by rw [typeLookup_type, builtinLookup_eq_fast]; kernel_rfl) (by decide +kernel) (by decide +kernel) (by decide +kernel)
    (by first | exact .inl (by decide +kernel) | exact .inr (by decide +kernel)) (by rw [isSubtype_type]; kernel_rfl)
theorem entry : entryFor table "bytes.join" = some Builtin.«bytes.join» := entryFor_of_tree (by kernel_rfl)
theorem args (a b : Value) : argsOk "bytes.join" ⟨[a, b], []⟩ := by unfold argsOk; kernel_rfl
theorem type : typeOf (.builtin "bytes.join") = pure (.type "method_descriptor") := by show builtinType _ = _; rw [builtinType_eq_fast]; kernel_rfl
end Jb
section
variable {prog : Program} {w : World} {M : Model} {A : Around} {s : Shared} {E : Value → Shared → Prop} {D : Addr}
theorem wp_forIn {σ : Type} {f : Nat → σ → Sem (ForInStep σ)} {S : Nat → σ} {n : Nat} {Q : σ → Shared → Prop} (hf : ∀ k (Q' : ForInStep σ → Shared → Prop), k < n → Q' (.yield (S (k + 1))) s → wpAny M A (f k (S k)) Q' E s) (h : Q (S n) s) :
    ∀ j k, k + j = n → wpAny M A (forIn (List.range' k j) (S k) f) Q E s := by
  intro j
  induction j with
  | zero =>
    intro k hk
    obtain rfl : k = n := by omega
    rw [show List.range' k 0 = [] from rfl, List.forIn_nil]
    exact wpAny_pure h
  | succ j ih =>
    intro k hk
    rw [List.range'_succ, List.forIn_cons]
    exact wpAny_bind (hf k _ (by omega) (ih (k + 1) (by omega)))
theorem jb_method {b : Array UInt8} {t : Tok} {pl : Sem Bool} {Q : Value × List Value → Shared → Prop} (h : Q (.builtin "bytes.join", [.bytes b t]) s) : wpAny M A (getMethod (.bytes b t) "join" pl) Q E s := by
  with_reducible exact KBd.method_of (.bytes b t) (typeIs_bytes _ _ _) Jb.slot Jb.type KBd.noRef h
theorem buffer_any {b : Array UInt8} {t : Tok} {id : String} {full : Bool} : Builtin.Bytes.buffer? id (.bytes b t) full = pure (some b) := by
  unfold Builtin.Bytes.buffer?
  rw [KBy.special_eq KBy.look_buffer, KBy.own_buffer, KBy.own_release]
  kernel_rfl
theorem jb_quiet {b : Array UInt8} {t : Tok} {id : String} {Q : Option (Array UInt8 × Option Value) → Shared → Prop} (h : Q (some (b, none)) s) : wpAny M A (Builtin.Bytes.takeBufferQuiet? id (.bytes b t) 0) Q E s := by
  have e1 : ∀ id : String, Builtin.Bytes.takeBuffer? id (.bytes b t) 0 = pure (some (b, none)) := fun id => by
    unfold Builtin.Bytes.takeBuffer?
    rw [KBy.special_eq KBy.look_buffer, KBy.own_buffer]
    simp only [buffer_any]
    rfl
  unfold Builtin.Bytes.takeBufferQuiet?
  rw [e1]
  exact wpAny_bind (wpAny_attempt (wpAny_pure (wpAny_pure h)))
theorem jb_letGo {keep : List Value} {Q : Unit → Shared → Prop} : ∀ (vs : List Value), Q () s → wpAny M A (Builtin.Bytes.joinLetGo (vs.map fun v => (v, (none : Option Value))) keep) Q E s
  | [], h => wpAny_pure h
  | v :: vs, h => by
    show wpAny M A (letGo (v :: [] : List Value) _ >>= fun _ => Builtin.Bytes.joinLetGo (vs.map fun v => (v, (none : Option Value))) keep) Q E s
    exact wpAny_bind (wpAny_letGo (jb_letGo vs h))
/-- octets put together, nothing between -/
theorem join_bytes {vs : List Value} {ps : List (Array UInt8)} {t : Tok} {Q : Value → Shared → Prop} (hl : s.heap.IsList D vs.toArray) (hp : ∀ (i : Nat) (v : Value), vs[i]? = some v → ∃ (b : Array UInt8) (t : Tok), ps[i]? = some b ∧ v = .bytes b t) (hn : vs.length = ps.length)
    (hz : (Builtin.Bytes.joined #[] ps).size ≤ 1000) (hf : ps.foldl (fun (a : Nat) (b : Array UInt8) => a + b.size) 0 ≤ 1000) (h : ∀ t k, Q (.bytes (Builtin.Bytes.joined #[] ps) t) { s with toks := k }) : wpAny (model prog w) A (call (.builtin "bytes.join") [.bytes #[] t, .ref D]) Q E s := by
  refine wpAny_call_entry Jb.slot (typeIs_bytes _ _ _) Jb.entry ?_ (Jb.args _ _)
  unfold Builtin.«bytes.join» Builtin.Bytes.joinM
  refine wpAny_bind (m := selfAndOne _ _) (wpAny_pure ?_)
  dsimp only
  refine bm_if_true rfl ?_
  obtain ⟨o, ho, hc, n, hd⟩ := hl
  have items : ∀ {Q : Option (Array Value) → Shared → Prop}, Q (some vs.toArray) s → wpAny (model prog w) A.in1 (seqItems? (.ref D)) Q (fun e s' => E e s') s := fun hq => wpAny_seqItems ho hd hq
  unfold Builtin.Bytes.joinItems
  refine wpAny_bind (wpAny_bind (wpAny_typeOf ⟨o, ho, hc⟩ ?_))
  refine bm_if_true (by decide) (wpAny_pure ?_)
  refine wpAny_bind (wpAny_seqItems ho hd ?_)
  dsimp only
  refine bm_if_true rfl ?_
  have hsz : vs.toArray.size = vs.length := by simp
  have hgd : ∀ k, (hk : k < vs.length) → vs.toArray.getD k Value.none = vs[k] := fun k hk => by simp [Array.getD, hk]
  have htl : vs.toArray.toList = vs := by simp
  clear hd
  generalize vs.toArray = its at *
  rcases its with ⟨l⟩
  rcases l with _ | ⟨x, _ | ⟨y, l⟩⟩
  case cons.nil =>
    have hvx : vs = [x] := htl.symm
    subst hvx
    obtain ⟨b, t1, hb, rfl⟩ := hp 0 x rfl
    have hps : ps = [b] := by
      cases ps with
      | nil => simp at hb
      | cons c r =>
        have hr : r = [] := by
          cases r with
          | nil => rfl
          | cons d r => simp at hn
        subst hr
        simpa using hb
    subst hps
    refine wpAny_bind (wpAny_typeOf (typeIs_bytes _ _ _) ?_)
    refine bm_if_true (by decide) ?_
    refine wpAny_bind (wpAny_rule ?_)
    refine wpAny_pure ⟨_, rfl, ?_⟩
    have e : Builtin.Bytes.joined #[] [b] = b := by simp [Builtin.Bytes.joined]
    rw [e] at h
    exact h t1 s.toks
  all_goals (
    refine wpAny_bind ?_
    simp only [Std.Legacy.Range.forIn_eq_forIn_range', Std.Legacy.Range.size]
    refine wp_forIn (S := fun k => ((ps.take k).toArray, (vs.take k).map fun v => (v, (none : Option Value)))) (n := vs.length) ?_ ?_ _ 0 (by rw [← hsz]; simp)
    · intro k Q' hk hq
      have hv : vs[k]? = some vs[k] := List.getElem?_eq_getElem hk
      obtain ⟨b, t1, hb, hvb⟩ := hp k _ hv
      refine wpAny_bind (items ?_)
      dsimp only
      rw [hgd k hk, hvb]
      refine bm_if_false ?_ ?_
      · rw [Bool.or_eq_false_iff]
        refine ⟨by decide, List.any_eq_false.mpr fun p hpm => ?_⟩
        obtain ⟨z, hz1, rfl⟩ := List.mem_map.mp hpm
        obtain ⟨i, hi, rfl⟩ := List.mem_iff_getElem.mp (List.mem_of_mem_take hz1)
        obtain ⟨b2, t2, _, e2⟩ := hp i _ (List.getElem?_eq_getElem hi)
        rw [e2]
        exact Bool.false_ne_true
      refine wpAny_bind (wpAny_holding (jb_quiet ?_))
      dsimp only
      refine wpAny_bind (items ?_)
      dsimp only
      refine bm_if_false (by simp) ?_
      refine wpAny_pure ?_
      have e1 : (ps.take (k + 1)).toArray = (ps.take k).toArray.push b := by rw [List.take_add_one, hb]; simp
      have e2 : ((vs.take (k + 1)).map fun v => (v, (none : Option Value))) = ((vs.take k).map fun v => (v, (none : Option Value))) ++ [(.bytes b t1, none)] := by rw [List.take_add_one, hv, hvb]; simp
      rw [← e1, ← e2]
      exact hq
    · dsimp only
      rw [hn, List.take_length, ← hn, List.take_length]
      refine wpAny_bind (wpAny_of_eq (a := (#[] : Array UInt8)) (by rfl) ?_)
      have hfo : (Array.foldl (fun (x1 : Nat) (x2 : Array UInt8) => x1 + x2.size) ((#[] : Array UInt8).size * (ps.toArray.size - 1)) ps.toArray) ≤ 1000 := by
        rw [show (#[] : Array UInt8).size * (ps.toArray.size - 1) = 0 from Nat.zero_mul _, List.size_toArray, List.foldl_toArray']
        · exact hf
        · rfl
      refine bm_if_false ?_ ?_
      · exact KBy.tooLong_not (by omega)
      refine wpAny_bind (wpAny_mkBytes ?_ (by rw [sizeLine_eq]; omega))
      refine wpAny_bind (wpAny_holding (wpAny_point ?_))
      refine wpAny_bind (jb_letGo _ ?_)
      exact wpAny_pure ⟨_, rfl, h _ _⟩)
end
end Mine
end
/-! Oct -/
section
open PySem PySem.W PyProof.Rows PySem.Calls
namespace Mine
theorem keeps_N {M : Model} {K : Frag} {f : Value} (hk : keepIn K f = true) (h : Heap) (X : K.In h) : ∃ k, Looks M h (keeperOf f) k := by
  obtain ⟨k, _, l⟩ := keeps_K (M := M) hk h X
  exact ⟨k, l⟩
theorem m_swap {a b c : PySem.Str} {p p' q r : Option Value} {u : PySem.Str → Option Value} (hbc : b ≠ c) :
    (fun y => if y = a then p else if y = b then q else if y = a then p' else if y = c then r else u y) = fun y => if y = a then p else if y = c then r else if y = b then q else u y := by
  funext y
  by_cases h1 : y = a
  · simp [h1]
  · by_cases h2 : y = b
    · subst h2
      simp [h1, hbc]
    · simp [h1, h2]
theorem m_look {a : PySem.Str} {r : Option Value} {u : PySem.Str → Option Value} (h : u a = r) : u = fun y => if y = a then r else u y := by
  funext y
  by_cases h1 : y = a
  · subst h1
    simp [h]
  · simp [h1]
theorem m_under {a c : PySem.Str} {p r : Option Value} {u : PySem.Str → Option Value} (h : u c = r) : (fun y => if y = a then p else u y) = fun y => if y = a then p else if y = c then r else u y := by
  funext y
  by_cases h1 : y = a
  · simp [h1]
  · by_cases h2 : y = c
    · subst h2
      simp [h1, h]
    · simp [h1, h2]
theorem led_back {h₀ h : Heap} {L : Addr} {p a b c : Addr × Obj} {l : List (Addr × Obj)} (N : News h₀ L h (p :: a :: b :: c :: l)) : News h₀ L h (a :: b :: c :: p :: l) := fun q hq => by
  rcases List.mem_cons.mp hq with rfl | hq
  · exact N _ (.tail _ (.head _))
  rcases List.mem_cons.mp hq with rfl | hq
  · exact N _ (.tail _ (.tail _ (.head _)))
  rcases List.mem_cons.mp hq with rfl | hq
  · exact N _ (.tail _ (.tail _ (.tail _ (.head _))))
  rcases List.mem_cons.mp hq with rfl | hq
  · exact N _ (.head _)
  · exact N _ (.tail _ (.tail _ (.tail _ (.tail _ hq))))
theorem led_fore {h₀ h : Heap} {L : Addr} {p a b c : Addr × Obj} {l : List (Addr × Obj)} (N : News h₀ L h (a :: b :: c :: p :: l)) : News h₀ L h (p :: a :: b :: c :: l) := fun q hq => by
  rcases List.mem_cons.mp hq with rfl | hq
  · exact N _ (.tail _ (.tail _ (.tail _ (.head _))))
  rcases List.mem_cons.mp hq with rfl | hq
  · exact N _ (.head _)
  rcases List.mem_cons.mp hq with rfl | hq
  · exact N _ (.tail _ (.head _))
  rcases List.mem_cons.mp hq with rfl | hq
  · exact N _ (.tail _ (.tail _ (.head _)))
  · exact N _ (.tail _ (.tail _ (.tail _ (.tail _ hq))))
theorem off_cons {p : Addr × Obj} {a : Addr} {l : List (Addr × Obj)} (h : p.1 ≠ a) (o : ∀ q ∈ l, q.1 ≠ a) : ∀ q ∈ p :: l, q.1 ≠ a := fun q hq => by
  rcases List.mem_cons.mp hq with rfl | hq
  · exact h
  · exact o q hq
/-- a number's four octets, the lowest first -/
def le4 (n : Int) : List UInt8 := [(n % 256).toNat.toUInt8, (n / 256 % 256).toNat.toUInt8, (n / 256 / 256 % 256).toNat.toUInt8, (n / 256 / 256 / 256 % 256).toNat.toUInt8]
theorem le4_len (n : Int) : (le4 n).length = 4 := rfl
theorem octets_of {b : Array UInt8} {l : List Int} (h : KBw.bInts b = l) : b = (l.map fun n => n.toNat.toUInt8).toArray := by
  subst h
  unfold KBw.bInts
  rw [List.map_map]
  have e : ((fun n : Int => n.toNat.toUInt8) ∘ fun c : UInt8 => (c.toNat : Int)) = id := by
    funext c
    simp
  rw [e, List.map_id]
theorem le4_of {b : Array UInt8} {n : Int} (h : KBw.bInts b = KTBy.little 4 n) : b = (le4 n).toArray := octets_of h
theorem le4_bInts {n : Int} : KBw.bInts (le4 n).toArray = KTBy.little 4 n := by
  have t (z : Int) : (((z % 256).toNat.toUInt8).toNat : Int) = z % 256 := by
    have h1 : 0 ≤ z % 256 := Int.emod_nonneg _ (by decide)
    have h2 : z % 256 < 256 := Int.emod_lt_of_pos _ (by decide)
    have h3 : ((z % 256).toNat.toUInt8).toNat = (z % 256).toNat := by
      rw [Nat.toUInt8, UInt8.toNat_ofNat']
      exact Nat.mod_eq_of_lt (by show (z % 256).toNat < 256; omega)
    rw [h3]
    exact Int.toNat_of_nonneg h1
  show (le4 n).map (fun c => (c.toNat : Int)) = _
  unfold le4
  simp only [List.map_cons, List.map_nil, t]
  rfl
/-- what stands in the stream after i numbers -/
def octs (nm : Array UInt8) (ns : List Int) (i : Nat) : Array UInt8 := nm ++ ((ns.take i).flatMap le4).toArray
theorem octs_zero (nm : Array UInt8) (ns : List Int) : octs nm ns 0 = nm := by simp [octs]
theorem octs_succ {nm : Array UInt8} {ns : List Int} {i : Nat} {n : Int} (h : ns[i]? = some n) : octs nm ns (i + 1) = octs nm ns i ++ (le4 n).toArray := by
  unfold octs
  rw [List.take_add_one, h]
  simp [Array.append_assoc]
theorem flat4 : ∀ (ns : List Int), (ns.flatMap le4).length = 4 * ns.length
  | [] => rfl
  | n :: r => by rw [List.flatMap_cons, List.length_append, flat4 r, le4_len, List.length_cons]; omega
theorem octs_size (nm : Array UInt8) (ns : List Int) (i : Nat) (hi : i ≤ ns.length) : (octs nm ns i).size = nm.size + 4 * i := by
  unfold octs
  have h := flat4 (ns.take i)
  rw [List.length_take, Nat.min_eq_left hi] at h
  have e : (((ns.take i).flatMap le4).toArray).size = ((ns.take i).flatMap le4).length := rfl
  rw [Array.size_append, e, h]
end Mine
end
/-! Oct3 -/
section
open PySem PySem.W PyProof.Rows PySem.Calls
namespace Mine
theorem joined_at : ∀ (ps : List (Array UInt8)) (k : Nat) (acc : Array UInt8), ((ps.zipIdx k).foldl (fun out (x : Array UInt8 × Nat) => (if x.2 > 0 then out ++ (#[] : Array UInt8) else out) ++ x.1) acc) = acc ++ (ps.flatMap fun p => p.toList).toArray
  | [], _, acc => by simp
  | p :: r, k, acc => by
    rw [List.zipIdx_cons, List.foldl_cons, joined_at r (k + 1)]
    have e : (if k > 0 then acc ++ (#[] : Array UInt8) else acc) = acc := by split <;> simp
    show (if k > 0 then acc ++ (#[] : Array UInt8) else acc) ++ p ++ _ = _
    rw [e, List.flatMap_cons]
    apply Array.toList_inj.mp
    simp
theorem joined_is (ps : List (Array UInt8)) : Builtin.Bytes.joined #[] ps = (ps.flatMap fun p => p.toList).toArray := by
  show ((ps.zipIdx 0).foldl (fun out (x : Array UInt8 × Nat) => (if x.2 > 0 then out ++ (#[] : Array UInt8) else out) ++ x.1) #[]) = _
  rw [joined_at]
  simp
theorem sizes_four : ∀ (ps : List (Array UInt8)) (a : Nat), (∀ p ∈ ps, p.size = 4) → ps.foldl (fun (a : Nat) (b : Array UInt8) => a + b.size) a = a + 4 * ps.length
  | [], a, _ => by simp
  | p :: r, a, h => by
    rw [List.foldl_cons, sizes_four r _ fun q hq => h q (List.mem_cons_of_mem _ hq), h p List.mem_cons_self, List.length_cons]
    omega
theorem octs_join (nm : Array UInt8) (ns : List Int) : nm ++ Builtin.Bytes.joined #[] (ns.map fun n => (le4 n).toArray) = octs nm ns ns.length := by
  rw [joined_is, List.flatMap_map]
  apply Array.toList_inj.mp
  simp [octs]
end Mine
end
/-! Ba1 -/
section
open PySem PySem.W PyProof.Rows PySem.Calls PyProof.V PySem.Spec
namespace Mine
namespace Ba
theorem mro : mroOf (.type "bytearray") = pure [.type "bytearray", .type "object"] := by rw [mroOf_type]; kernel_rfl
theorem lk_new : typeLookup (.type "bytearray") "__new__" = pure (some (.builtin "bytearray.__new__")) := by rw [typeLookup_type, builtinLookup_eq_fast]; kernel_rfl
theorem slot_init : Slot "bytearray" "__init__" "bytearray.__init__" :=
  .of (owner := "bytearray") (n := "__init__") (by rw [typeLookup_type, builtinLookup_eq_fast]; kernel_rfl) (by decide +kernel) (by decide +kernel) (by decide +kernel)
    (by first | exact .inl (by decide +kernel) | exact .inr (by decide +kernel)) (by rw [isSubtype_type]; kernel_rfl)
theorem called : TypeCalled "bytearray" "bytearray.__new__" "bytearray.__init__" :=
  ⟨by decide +kernel, by decide +kernel, ⟨_, _, mro⟩, madeBy_type mro lk_new (by decide +kernel), by decide +kernel, by rw [isSubtype_type]; kernel_rfl, slot_init⟩
theorem tcall0 : checkTypeCall "bytearray" ⟨[], []⟩ = pure () := by kernel_rfl
theorem tcall1 (a : Value) : checkTypeCall "bytearray" ⟨[a], []⟩ = pure () := by kernel_rfl
theorem ncall0 : checkBuiltinCall "bytearray.__new__" ⟨[.type "bytearray"], []⟩ = pure () := by kernel_rfl
theorem ncall1 (a : Value) : checkBuiltinCall "bytearray.__new__" ⟨[.type "bytearray", a], []⟩ = pure () := by kernel_rfl
theorem entry_new : entryFor table "bytearray.__new__" = some Builtin.«list.__new__» :=
  entryFor_alias (id' := "list.__new__") (by rw [fastTable_eq_tree]; kernel_rfl) (by first | rfl | decide +kernel) (by decide +kernel) (by rw [fastTable_eq_tree]; kernel_rfl)
theorem entry_init : entryFor table "bytearray.__init__" = some Builtin.«bytearray.__init__» := entryFor_of_tree (by kernel_rfl)
theorem plain_new : plainId "bytearray.__new__" = true := by decide +kernel
theorem owner_new : ("bytearray.__new__".splitOn ".__new__").headD "" = "bytearray" := by simp +decide [String.splitOn, String.splitOnAux]
theorem args_init_1 (a : Value) : argsOk "bytearray.__init__" ⟨[a], []⟩ := by
  unfold argsOk; kernel_rfl
theorem args_init_2 (a b : Value) : argsOk "bytearray.__init__" ⟨[a, b], []⟩ := by
  unfold argsOk; kernel_rfl
theorem lk_release : typeLookup (.type "bytearray") "__release_buffer__" = pure (some (.builtin "bytearray.__release_buffer__")) := by rw [typeLookup_type, builtinLookup_eq_fast]; kernel_rfl
theorem sub_self : isSubtype (.type "bytearray") (.type "bytearray") = pure true := by rw [isSubtype_type]; kernel_rfl
theorem lk_release_b : typeLookup (.type "bytes") "__release_buffer__" = pure none := by rw [typeLookup_type, builtinLookup_eq_fast]; kernel_rfl
theorem lk_buffer_b : typeLookup (.type "bytes") "__buffer__" = pure (some (.builtin "bytes.__buffer__")) := by rw [typeLookup_type, builtinLookup_eq_fast]; kernel_rfl
theorem lk_index_b : typeLookup (.type "bytes") "__index__" = pure none := by rw [typeLookup_type, builtinLookup_eq_fast]; kernel_rfl
theorem sub_b : isSubtype (.type "bytes") (.type "bytes") = pure true := by rw [isSubtype_type]; kernel_rfl
theorem binds0 : Builtin.Bytes.bindOptional "bytearray.__init__" "bytearray" ["source", "encoding", "errors"] [] [] = pure [none, none, none] := by kernel_rfl
theorem binds1 (a : Value) : Builtin.Bytes.bindOptional "bytearray.__init__" "bytearray" ["source", "encoding", "errors"] [a] [] = pure [some a, none, none] := by kernel_rfl
theorem buffer_b (b : Array UInt8) (t : Tok) {M : Model} {h : Heap} : Looks M h (Builtin.Bytes.buffer? "bytearray.__init__" (.bytes b t) true) (some b) := by
  unfold Builtin.Bytes.buffer? specialOf Builtin.Bytes.slotIsOwn specialOf isInstance
  exact Looks.of_peek (K := []) (fun _ _ e => by cases e) (by kernel_rfl)
end Ba
end Mine
end
/-! Ba2 -/
section
open PySem PySem.W PyProof.Rows PySem.Calls PyProof.V PySem.Spec
namespace Mine
abbrev baObj (b : Array UInt8) : Obj := { cls := .type "bytearray", data := .bytearray b 0 }
section
variable {M : Model} {A : Around} {s : Shared} {E : Value → Shared → Prop} {h : Heap} {S : Addr} {b : Array UInt8}
theorem Ba.typ (hS : h.get? S = some (baObj b)) : Looks M h (typeOf (.ref S)) (.type "bytearray") := (Looks.ld hS).andThen .now
theorem Ba.isOwn (hS : h.get? S = some (baObj b)) : Looks M h (Builtin.Bytes.slotIsOwn (.ref S) "__release_buffer__") true := by
  unfold Builtin.Bytes.slotIsOwn specialOf isInstance
  refine Looks.andThen (Looks.andThen (Ba.typ hS) (Looks.of_pure Ba.lk_release)) ?_
  show Looks M h (if !("bytearray.__release_buffer__".endsWith ("." ++ "__release_buffer__")) then pure false else (typeOf (.ref S) >>= fun t => isSubtype t (.type ("bytearray.__release_buffer__".dropRight ("__release_buffer__".length + 1))))) true
  rw [if_neg (by decide +kernel), show "bytearray.__release_buffer__".dropRight ("__release_buffer__".length + 1) = "bytearray" by decide +kernel]
  exact (Ba.typ hS).andThen (Looks.of_pure Ba.sub_self)
theorem Ba.release (hS : h.get? S = some (baObj b)) : Looks M h (Builtin.Bytes.ownRelease (.ref S)) false := by
  unfold Builtin.Bytes.ownRelease
  exact (Ba.isOwn hS).andThen Looks.now
theorem Ba.exportsOf (hS : h.get? S = some (baObj b)) : Looks M h (Builtin.Bytes.exportsOf (.ref S)) 0 := (Looks.ld hS).andThen .now
theorem wpAny_write {f : Array UInt8 → Array UInt8} {Q : Unit → Shared → Prop} (hS : s.heap.get? S = some (baObj b)) (hz : (f b).size ≤ sizeLine)
    (hq : ∀ h', Heap.SameBut S s.heap h' → h'.get? S = some (baObj (f b)) → Q () { s with heap := h' }) : wpAny M A (Builtin.Bytes.write (.ref S) f) Q E s := by
  unfold Builtin.Bytes.write updateBytearray
  refine wpAny_bind (wpAny_load hS ?_)
  show wpAny M A (update S (Obj.mapBytearray f) >>= fun _ => lookBehind S) _ _ _
  refine wpAny_bind (wpAny_update hS ?_)
  have hS₂ : (s.heap.update S (Obj.mapBytearray f)).get? S = some (baObj (f b)) := Heap.get?_update_self (Obj.mapBytearray f) hS rfl
  refine wpAny_lookBehind hS₂ ?_ ?_
  · show (if (f b).size > sizeLine then some "bytearray:memory" else none) = none
    rw [if_neg (Nat.not_lt.mpr hz)]
  · exact hq _ (Heap.SameBut.update ..) hS₂
theorem N_no {c t e : Sem Fin} {Q : Fin → Shared → Prop} (h : wpN M A e Q E s) : wpN M A (if false = true then t else e) Q E s := h
theorem any_no {α : Type} {t e : Sem α} {Q : α → Shared → Prop} (h : wpAny M A e Q E s) : wpAny M A (if false = true then t else e) Q E s := h
/-- bytearray's own start, with no source -/
theorem init0 {A : Around} {Q : Fin → Shared → Prop} (hg : A.guards = some []) (hS : s.heap.get? S = some (baObj b))
    (hq : ∀ h', Heap.SameBut S s.heap h' → h'.get? S = some (baObj #[]) → Q (.done (.ret .none)) { s with heap := h' }) :
    wpN M A (Builtin.«bytearray.__init__» ⟨[.ref S], []⟩) Q E s := by
  unfold Builtin.«bytearray.__init__»
  refine wpN_then ((Ba.release hS).here ?_)
  refine N_no (c := pure default) ?_
  refine wpN_then (wpAny_of_eq Ba.binds0 ?_)
  refine wpN_then (wpAny_pure ?_)
  refine wpN_then (wpAny_pure ?_)
  refine wpN_bind (wpN_bind (wpN_exported hg ?_))
  refine wpN_then ((Ba.exportsOf hS).here ?_)
  refine wpN_pure ?_
  refine N_no (c := pure default) ?_
  refine wpN_then (wpAny_write hS (by decide) fun h' hb hS' => ?_)
  exact wpN_then (wpAny_pure (wpN_pure (hq h' hb hS')))
theorem init1 {A : Around} {Q : Fin → Shared → Prop} {d : Array UInt8} {t : Tok} (hz : d.size ≤ sizeLine) (hg : A.guards = some []) (hS : s.heap.get? S = some (baObj b))
    (hq : ∀ h', Heap.SameBut S s.heap h' → h'.get? S = some (baObj d) → Q (.done (.ret .none)) { s with heap := h' }) :
    wpN M A (Builtin.«bytearray.__init__» ⟨[.ref S, .bytes d t], []⟩) Q E s := by
  unfold Builtin.«bytearray.__init__»
  refine wpN_then ((Ba.release hS).here ?_)
  refine N_no (c := pure default) ?_
  refine wpN_then (wpAny_of_eq (Ba.binds1 _) ?_)
  refine wpN_then (wpAny_pure ?_)
  refine wpN_then (wpAny_pure ?_)
  refine wpN_bind (wpN_bind (wpN_exported hg ?_))
  refine wpN_then ((Ba.exportsOf hS).here ?_)
  refine wpN_pure ?_
  refine N_no (c := pure default) ?_
  refine wpN_then (wpAny_write hS (by decide) fun h' hb hS' => ?_)
  refine wpN_then (wpAny_pure ?_)
  refine N_no (c := pure default) ?_
  refine wpN_then (wpAny_pure ?_)
  refine wpN_then ((Looks.of_pure (M := M) (h := h') (t := specialOf (.bytes d t) "__index__") (r := none) Ba.lk_index_b).here ?_)
  refine N_no (c := pure default) ?_
  refine wpN_then ((Ba.buffer_b d t (M := M) (h := h')).here ?_)
  refine wpN_then (wpAny_rule ?_)
  refine wpN_then (wpAny_write (s := { s with heap := h' }) hS' hz fun h₂ hb₂ hS₂ => ?_)
  exact wpN_pure (hq h₂ (hb.trans hb₂) hS₂)
end
end Mine
end
/-! Ba3 -/
section
open PySem PySem.W PyProof.Rows PySem.Calls PyProof.V PySem.Spec
namespace Mine
section
variable {M : Model} {A : Around} {s : Shared} {E : Value → Shared → Prop}
theorem N_if_no {α : Type} {c : Bool} {t e : Sem α} {Q : α → Shared → Prop} (hc : c = false) (h : wpN M A e Q E s) : wpN M A (if c = true then t else e) Q E s := by rw [hc]; exact h
end
section
variable {prog : Program} {w : World} {A : Around} {s : Shared} {E : Value → Shared → Prop} {R : Result → Shared → Prop}
theorem codeN_builtin {id : String} {args : Args} {b : Builtin} (hh : holds (.builtin id args) = false) (hb : entryFor table id = some b)
    (h : wpN (model prog w) (A.under (.builtin id args)) (b args)
      (fun fin s' => match fin with | .done f => R (.ok f) s' | .again c' => c'.quiet = true ∧ codeN (model prog w) A c' R s') (fun e s' => R (.error e) s') s) :
    codeN (model prog w) A (.builtin id args) R s := by
  refine codeN_of_tree hh ?_
  show wpN _ _ (match entryFor table id with | some b => b args | none => unsupported ((withoutEnding? id "#data").getD id)) _ _ s
  rw [hb]; exact h
theorem codeN_call_builtin {id : String} {args : Args} {b : Builtin} (hh : holds (.builtin id args) = false) (hq : plainId id = true) (hb : entryFor table id = some b)
    (h : wpAny (model prog w) A.in1 (checkBuiltinCall id args) (fun _ s₁ => wpN (model prog w) A.in1 (b args)
      (fun fin s' => match fin with | .done f => R (.ok f) s' | .again c' => c'.quiet = true ∧ codeN (model prog w) A c' R s') (fun e s' => R (.error e) s') s₁)
      (fun e s' => R (.error e) s') s) : codeN (model prog w) A (.call (.builtin id) args) R s := by
  refine codeN_of_tree rfl ?_
  show wpN _ A.in1 (do checkBuiltinCall id args; again (.builtin id args)) _ _ s
  refine wpN_then (wpAny_mono h (fun _ s₁ h₁ => wpN_pure ⟨plainId_quiet hq args, codeN_builtin hh hb ?_⟩) fun _ _ h' => h')
  rw [Around.under_plainId hq args]
  exact h₁
theorem guards_in1 (hg : A.guards = some []) : A.in1.guards = some [] := hg
theorem ba_new {rest : List Value} {Q : Value → Shared → Prop} (hc : checkBuiltinCall "bytearray.__new__" ⟨.type "bytearray" :: rest, []⟩ = pure ())
    (h : Q (.ref s.heap.objs.size) { s with heap := s.heap.push (baObj #[]) }) :
    wpAny (model prog w) A (call (.builtin "bytearray.__new__") (.type "bytearray" :: rest)) Q E s := by
  refine wpAny_call (codeAny_of_tree ?_)
  show wpAny _ A.in1 (do checkBuiltinCall "bytearray.__new__" ⟨.type "bytearray" :: rest, []⟩; again (.builtin "bytearray.__new__" ⟨.type "bytearray" :: rest, []⟩)) _ _ s
  refine wpAny_bind (wpAny_of_eq hc (wpAny_pure ⟨plainId_quiet Ba.plain_new _, codeAny_builtin_stack Ba.entry_new rfl fun p st => ?_⟩))
  rw [Around.under_plainId Ba.plain_new _]
  have hsub := Ba.sub_self
  have hown := Ba.owner_new
  obtain ⟨hp, g, d, tk, os⟩ := s
  simp only [hown]
  wp_walk
  exact h
/-- bytearray called: a new object, written by its own start -/
theorem ba_call {rest : List Value} {Q : Value → Shared → Prop} (hct : checkTypeCall "bytearray" ⟨rest, []⟩ = pure ()) (hcn : checkBuiltinCall "bytearray.__new__" ⟨.type "bytearray" :: rest, []⟩ = pure ())
    (hci : argsOk "bytearray.__init__" ⟨.ref s.heap.objs.size :: rest, []⟩)
    (h : wpN (model prog w) A.in1.in1 (Builtin.«bytearray.__init__» ⟨.ref s.heap.objs.size :: rest, []⟩) (fun fin s' => fin = .done (.ret .none) ∧ Q (.ref s.heap.objs.size) s') E { s with heap := s.heap.push (baObj #[]) }) :
    wpN (model prog w) A (call (.type "bytearray") rest) Q E s := by
  refine wpN_call (codeN_of_tree rfl ?_)
  show wpN _ _ (callAny (.type "bytearray") _) _ _ _
  refine wpN_pure ⟨Code.quiet_builtin _ (by decide +kernel), codeN_builtin rfl F.entry_type_call ?_⟩
  rw [Around.under_plain (weight_type_call_type _ _ []) (units_type_call_type _ _ [])]
  unfold Builtin.«type.__call__»
  refine N_if_no Ba.called.notType ?_
  refine N_if_no Ba.called.canCreate ?_
  refine wpN_then (wpAny_of_eq hct ?_)
  refine wpN_then (wpAny_of_eq Ba.mro ?_)
  refine N_if_no rfl ?_
  refine wpN_then (wpAny_of_eq Ba.called.made ?_)
  refine wpN_then (wpAny_pure ?_)
  refine wpN_then (wpAny_holding (ba_new hcn ?_))
  have hS : (s.heap.push (baObj #[])).get? s.heap.objs.size = some (baObj #[]) := Heap.get?_push_size _ rfl
  have Li : Looks (model prog w) (s.heap.push (baObj #[])) (isInstance (.ref s.heap.objs.size) (.type "bytearray")) true := by
    unfold isInstance
    exact (Ba.typ hS).andThen (Looks.of_pure Ba.sub_self)
  refine wpN_then (Li.here (s := { s with heap := s.heap.push (baObj #[]) }) ?_)
  refine N_if_no rfl ?_
  refine wpN_bindm (P := fun r s' => r = some .none ∧ Q (.ref s.heap.objs.size) s') (wpN_holding ?_) ?_
  · unfold callSpecial?
    have Ls : Looks (model prog w) (s.heap.push (baObj #[])) (specialOf (.ref s.heap.objs.size) "__init__") (some (.builtin "bytearray.__init__")) := by
      unfold specialOf
      exact (Ba.typ hS).andThen (Looks.of_pure Ba.slot_init.lookup)
    refine wpN_then (Ls.here (s := { s with heap := s.heap.push (baObj #[]) }) ?_)
    dsimp only
    refine wpN_holding (wpN_then (wpAny_of_eq (Ba.slot_init.bind _) ?_))
    dsimp only
    refine wpN_bindm (P := fun r s' => r = .none ∧ Q (.ref s.heap.objs.size) s') (wpN_call (codeN_call_builtin rfl Ba.slot_init.plain Ba.entry_init (Ba.slot_init.check _ _ _ _ _ _ _ _ ⟨_, hS, rfl⟩ hci ?_))) ?_
    · refine wpN_mono h ?_ fun _ _ e => e
      rintro _ s' ⟨rfl, q⟩
      exact ⟨rfl, q⟩
    · rintro _ s' ⟨rfl, q⟩
      exact wpN_pure ⟨rfl, q⟩
  · rintro _ s' ⟨rfl, q⟩
    exact wpN_pure q
theorem ba_call0 {Q : Value → Shared → Prop} (hg : A.guards = some []) (hq : ∀ h', (∀ b o, s.heap.get? b = some o → h'.get? b = some o) → h'.get? s.heap.objs.size = some (baObj #[]) → s.heap.objs.size < h'.objs.size → Q (.ref s.heap.objs.size) { s with heap := h' }) :
    wpN (model prog w) A (call (.type "bytearray") []) Q E s := by
  have hS : (s.heap.push (baObj #[])).get? s.heap.objs.size = some (baObj #[]) := Heap.get?_push_size _ rfl
  refine ba_call Ba.tcall0 Ba.ncall0 (Ba.args_init_1 _) (init0 (s := { s with heap := s.heap.push (baObj #[]) }) hg hS fun h' hb hS' => ⟨rfl, hq h' (fun b o e => ?_) hS' (Heap.lt_size hS')⟩)
  exact (hb.2 b (Nat.ne_of_lt (Heap.lt_size e))).trans (Heap.get?_push_of_some _ e)
theorem ba_call1 {Q : Value → Shared → Prop} {d : Array UInt8} {t : Tok} (hz : d.size ≤ sizeLine) (hg : A.guards = some []) (hq : ∀ h', (∀ b o, s.heap.get? b = some o → h'.get? b = some o) → h'.get? s.heap.objs.size = some (baObj d) → s.heap.objs.size < h'.objs.size → Q (.ref s.heap.objs.size) { s with heap := h' }) :
    wpN (model prog w) A (call (.type "bytearray") [.bytes d t]) Q E s := by
  have hS : (s.heap.push (baObj #[])).get? s.heap.objs.size = some (baObj #[]) := Heap.get?_push_size _ rfl
  refine ba_call (Ba.tcall1 _) (Ba.ncall1 _) (Ba.args_init_2 _ _) (init1 (s := { s with heap := s.heap.push (baObj #[]) }) hz hg hS fun h' hb hS' => ⟨rfl, hq h' (fun b o e => ?_) hS' (Heap.lt_size hS')⟩)
  exact (hb.2 b (Nat.ne_of_lt (Heap.lt_size e))).trans (Heap.get?_push_of_some _ e)
end
end Mine
end
/-! Ba4 -/
section
open PySem PySem.W PyProof.Rows PySem.Calls PyProof.V PySem.Spec
namespace Mine
namespace Ba
theorem slot_set : Slot "bytearray" "__setitem__" "bytearray.__setitem__" :=
  .of (owner := "bytearray") (n := "__setitem__") (by rw [typeLookup_type, builtinLookup_eq_fast]; kernel_rfl) (by decide +kernel) (by decide +kernel) (by decide +kernel)
    (by first | exact .inl (by decide +kernel) | exact .inr (by decide +kernel)) (by rw [isSubtype_type]; kernel_rfl)
theorem entry_set : entryFor table "bytearray.__setitem__" = some Builtin.«bytearray.__setitem__» := entryFor_of_tree (by kernel_rfl)
theorem args_set (a b c : Value) : argsOk "bytearray.__setitem__" ⟨[a, b, c], []⟩ := by unfold argsOk; kernel_rfl
theorem lk_index_sl : typeLookup (.type "slice") "__index__" = pure none := by rw [typeLookup_type, builtinLookup_eq_fast]; kernel_rfl
theorem lk_index_i : typeLookup (.type "int") "__index__" = pure (some (.builtin "int.__index__")) := by rw [typeLookup_type, builtinLookup_eq_fast]; kernel_rfl
theorem lk_int_b : typeLookup (.type "bytes") "__int__" = pure none := by rw [typeLookup_type, builtinLookup_eq_fast]; kernel_rfl
theorem lk_float_b : typeLookup (.type "bytes") "__float__" = pure none := by rw [typeLookup_type, builtinLookup_eq_fast]; kernel_rfl
theorem sub_b_complex : isSubtype (.type "bytes") (.type "complex") = pure false := by rw [isSubtype_type]; kernel_rfl
theorem sub_b_ba : isSubtype (.type "bytes") (.type "bytearray") = pure false := by rw [isSubtype_type]; kernel_rfl
end Ba
abbrev slObj (a b : Value) : Obj := { cls := .type "slice", data := .fields #[a, b, .none] }
section
variable {M : Model} {A : Around} {s : Shared} {E : Value → Shared → Prop} {h : Heap} {S I : Addr} {b d : Array UInt8} {lo hi : Int} {tl th t : Tok}
theorem N_if_yes {α : Type} {c : Bool} {t e : Sem α} {Q : α → Shared → Prop} (hc : c = true) (h : wpN M A t Q E s) : wpN M A (if c = true then t else e) Q E s := by rw [hc]; exact h
theorem Sl.typ (hI : h.get? I = some (slObj (.int lo tl) (.int hi th))) : Looks M h (typeOf (.ref I)) (.type "slice") := (Looks.ld hI).andThen .now
theorem Sl.noIndex (hI : h.get? I = some (slObj (.int lo tl) (.int hi th))) : Looks M h (specialOf (.ref I) "__index__") none := by
  unfold specialOf; exact (Sl.typ hI).andThen (Looks.of_pure Ba.lk_index_sl)
theorem Sl.subscript (hI : h.get? I = some (slObj (.int lo tl) (.int hi th))) : Looks M h (Builtin.Bytes.subscript? (.ref I)) none := by
  unfold Builtin.Bytes.subscript?; exact (Sl.noIndex hI).andThen .now
theorem Sl.field0 (hI : h.get? I = some (slObj (.int lo tl) (.int hi th))) : Looks M h (field (.ref I) 0) (.int lo tl) := by
  unfold field fieldsOf; exact ((Looks.ld (part := none) hI).andThen .now).andThen .now
theorem Sl.field1 (hI : h.get? I = some (slObj (.int lo tl) (.int hi th))) : Looks M h (field (.ref I) 1) (.int hi th) := by
  unfold field fieldsOf; exact ((Looks.ld (part := none) hI).andThen .now).andThen .now
theorem Sl.field2 (hI : h.get? I = some (slObj (.int lo tl) (.int hi th))) : Looks M h (field (.ref I) 2) .none := by
  unfold field fieldsOf; exact ((Looks.ld (part := none) hI).andThen .now).andThen .now
theorem Sl.part (i : Int) (t : Tok) {h : Heap} : Looks M h (do
    if (Value.int i t) == .none then return .none
    if (← specialOf (.int i t) "__index__").isNone then
      rule "bytes.slice.part-no-index"; raiseError "TypeError" "slice indices must be integers or None or have an __index__ method"
    return rawInt (← asIndex (.int i t))) (rawInt i) := by
  have e : specialOf (.int i t) "__index__" = pure (some (.builtin "int.__index__")) := Ba.lk_index_i
  show Looks M h (specialOf (.int i t) "__index__" >>= _) _
  rw [e]
  exact Looks.of_pure rfl
theorem Sl.parts (hI : h.get? I = some (slObj (.int lo tl) (.int hi th))) : Looks M h (Builtin.Bytes.sliceParts (.ref I)) (rawInt lo, rawInt hi, .none) := by
  unfold Builtin.Bytes.sliceParts
  refine (Sl.field2 hI).andThen (Looks.andThen (a := Value.none) .now ?_)
  refine Looks.andThen (Sl.field0 hI) (Looks.andThen (Sl.part lo tl) (Looks.andThen (Sl.field1 hI) (Looks.andThen (Sl.part hi th) .now)))
theorem Ba.payload (hS : h.get? S = some (baObj b)) : Looks M h (Builtin.Bytes.payload (.ref S)) b := by
  unfold Builtin.Bytes.payload Builtin.Bytes.payload?
  exact ((Looks.ld (part := none) hS).andThen .now).andThen .now
theorem Sl.indices (lo hi : Int) (n : Nat) (h0 : 0 ≤ lo) (h1 : 0 ≤ hi) : sliceIndices (rawInt lo) (rawInt hi) .none n = pure (max 0 (min lo n), max 0 (min hi n), 1) := by
  have e0 : ¬ lo < 0 := by omega
  have e1 : ¬ hi < 0 := by omega
  show (pure (max 0 (min (if lo < 0 then lo + (n : Int) else lo) n), max 0 (min (if hi < 0 then hi + (n : Int) else hi) n), 1) : Sem (Int × Int × Int)) = _
  rw [if_neg e0, if_neg e1]
theorem Ba.seqKey (hS : h.get? S = some (baObj b)) (hI : h.get? I = some (slObj (.int lo tl) (.int hi th))) : Looks M h (sequenceKey (.ref S) (.ref I) "__setitem__") (.ref I) := by
  unfold sequenceKey
  refine (Ba.typ hS).andThen ?_
  exact Looks.now
/-- a slice of a bytearray written over by octets, at its end: it grows -/
theorem ba_setitem {A : Around} {Q : Fin → Shared → Prop} {prog : Program} {w : World} (hg : A.guards = some []) (hS : s.heap.get? S = some (baObj b)) (hI : s.heap.get? I = some (slObj (.int lo tl) (.int hi th)))
    (hlo : lo = b.size) (hhi : hi = lo + d.size) (hz : b.size + d.size ≤ sizeLine)
    (hq : ∀ h', (∀ a o, a ≠ S → s.heap.get? a = some o → h'.get? a = some o) → h'.get? S = some (baObj (b ++ d)) → s.heap.objs.size ≤ h'.objs.size → Q (.done (.ret .none)) { s with heap := h' }) :
    wpN (model prog w) A (Builtin.«bytearray.__setitem__» ⟨[.ref S, .ref I, .bytes d t], []⟩) Q E s := by
  unfold Builtin.«bytearray.__setitem__»
  refine N_if_no rfl ?_
  refine wpN_then ((Sl.subscript hI).here ?_)
  refine wpN_then ((Sl.typ hI).here ?_)
  refine N_if_no (by decide) ?_
  refine wpN_then ((Sl.parts hI).here ?_)
  refine N_if_no rfl ?_
  refine wpN_then (wpAny_of_eq (show isInstance (.bytes d t) (.type "bytearray") = pure false from Ba.sub_b_ba) ?_)
  refine N_if_yes rfl ?_
  refine wpN_then (wpAny_bind (wpAny_bind (wpAny_of_eq (show specialOf (.bytes d t) "__index__" = pure none from Ba.lk_index_b) (wpAny_pure ?_))))
  refine wpAny_bind (wpAny_bind (wpAny_of_eq (show specialOf (.bytes d t) "__int__" = pure none from Ba.lk_int_b) (wpAny_pure ?_)))
  refine wpAny_bind (wpAny_bind (wpAny_of_eq (show specialOf (.bytes d t) "__float__" = pure none from Ba.lk_float_b) (wpAny_pure ?_)))
  refine wpAny_of_eq (show isInstance (.bytes d t) (.type "complex") = pure false from Ba.sub_b_complex) ?_
  refine wpN_then (wpAny_pure ?_)
  refine N_if_no rfl ?_
  refine wpN_then (wpAny_rule ?_)
  refine wpN_bind (ba_call1 (by omega) hg fun h₁ hk hT hlt => ?_)
  have hS₁ := hk _ _ hS
  have hI₁ := hk _ _ hI
  refine wpN_then (wpAny_holding ((Sl.parts hI₁).here (s := { s with heap := h₁ }) ?_))
  refine wpN_then ((Ba.payload hT).here (s := { s with heap := h₁ }) ?_)
  refine wpN_then ((Ba.payload hS₁).here (s := { s with heap := h₁ }) ?_)
  refine wpN_then (wpAny_of_eq (Sl.indices lo hi b.size (by omega) (by omega)) ?_)
  have e1 : max 0 (min lo (b.size : Int)) = b.size := by omega
  have e2 : max 0 (min hi (b.size : Int)) = b.size := by omega
  rw [e1, e2]
  refine N_if_yes rfl ?_
  refine wpN_then (wpAny_rule ?_)
  have fin : wpN (model prog w) A (do Builtin.Bytes.write (Value.ref S) fun b' => b'.extract 0 (b.size : Int).toNat ++ d ++ b'.extract (max (b.size : Int) b.size).toNat; ret Value.none) Q E { s with heap := h₁ } := by
    have ef : b.extract 0 (b.size : Int).toNat ++ d ++ b.extract (max (b.size : Int) b.size).toNat = b ++ d := by
      simp
    refine wpN_then (wpAny_write (s := { s with heap := h₁ }) hS₁ (by rw [ef, Array.size_append]; exact hz) fun h₂ hb hS₂ => ?_)
    rw [ef] at hS₂
    refine wpN_pure (hq h₂ (fun a o ha e => (hb.2 a ha).trans (hk _ _ e)) hS₂ ?_)
    exact Nat.le_trans (Nat.le_of_lt hlt) (Nat.le_of_eq hb.1.symm)
  by_cases hd : ((d.size : Int) != max (b.size : Int) b.size - b.size) = true
  · refine N_if_yes hd ?_
    refine wpN_bind ?_
    unfold Builtin.Bytes.checkResize
    refine wpN_bind (wpN_bind (wpN_exported hg ?_))
    refine wpN_then ((Ba.exportsOf hS₁).here (s := { s with heap := h₁ }) ?_)
    refine wpN_pure ?_
    refine N_if_no rfl ?_
    exact wpN_pure fin
  · exact N_if_no (by simpa using hd) fin
theorem ba_store {A : Around} {Q : Unit → Shared → Prop} {prog : Program} {w : World} (hg : A.guards = some []) (hS : s.heap.get? S = some (baObj b)) (hI : s.heap.get? I = some (slObj (.int lo tl) (.int hi th)))
    (hlo : lo = b.size) (hhi : hi = lo + d.size) (hz : b.size + d.size ≤ sizeLine)
    (hq : ∀ h', (∀ a o, a ≠ S → s.heap.get? a = some o → h'.get? a = some o) → h'.get? S = some (baObj (b ++ d)) → s.heap.objs.size ≤ h'.objs.size → Q () { s with heap := h' }) :
    wpN (model prog w) A (setItem (.ref S) (.ref I) (.bytes d t)) Q E s := by
  unfold setItem
  refine wpN_holding (wpN_then ((Ba.seqKey hS hI).here ?_))
  refine wpN_bindm (P := fun r s' => r = some .none ∧ Q () s') ?_ ?_
  · unfold callSpecial?
    have Ls : Looks (model prog w) s.heap (specialOf (.ref S) "__setitem__") (some (.builtin "bytearray.__setitem__")) := by
      unfold specialOf
      exact (Ba.typ hS).andThen (Looks.of_pure Ba.slot_set.lookup)
    refine wpN_then (Ls.here ?_)
    dsimp only
    refine wpN_holding (wpN_then (wpAny_of_eq (Ba.slot_set.bind _) ?_))
    dsimp only
    refine wpN_bindm (P := fun r s' => r = .none ∧ Q () s') (wpN_call (codeN_call_builtin rfl Ba.slot_set.plain Ba.entry_set (Ba.slot_set.check _ _ _ _ _ _ _ _ ⟨_, hS, rfl⟩ (Ba.args_set _ _ _) ?_))) ?_
    · exact ba_setitem hg hS hI hlo hhi hz fun h' k1 k2 k3 => ⟨rfl, hq h' k1 k2 k3⟩
    · rintro _ s' ⟨rfl, q⟩
      exact wpN_pure ⟨rfl, q⟩
  · rintro _ s' ⟨rfl, q⟩
    exact wpN_pure q
end
end Mine
end
section
local macro_rules | `(tactic| walk_at "True") => `(tactic| trivial)
theorem Mine.anew_Par1 : True := by
  w_top off
  walk1
end
/-! Par1 -/
section
open PySem PySem.W PyProof.Rows PySem.Calls
namespace Mine
def isMark (e : PySem.Str) : Bool := false || decide (Txt.item e (-1) = PySem.Str.ofString "h") || decide (Txt.item e (-1) = PySem.Str.ofString "H") || decide (Txt.item e (-1) = PySem.Str.ofString "'")
def itemVal? (e : PySem.Str) : Option Int := if isMark e then (PySem.intText? (Txt.slice e none (some (-1)))).map (· + 2147483648) else PySem.intText? e
section
variable {w : World} {dp un : Nat} {gd : Option (List Code)} {cn : PySem.Str} {cs : Scope} {a : Addr} {ccd : Value} {cl : List (PySem.Str × Addr)} {outer : List Env} {A₀ : Around} {base h₀ : Heap} {L : Addr} {m mg mb : PySem.Str → Option Value} {mean : ExcName → Option Value} {loose : List PySem.Str} {s : Shared} {Q E : Value → Shared → Prop} {news : List (Addr × Obj)}
variable (B : Below A₀ base outer h₀) (F : Fr h₀ L s.heap m) (X : (hd.heap_39 w.params).In h₀) (N : News h₀ L s.heap news) (T : Top hd.view_39 loose mean mg mb h₀) (hk : cs.kind = .function)
include B F X N T hk
theorem item_c {e : PySem.Str} {t : Tok} {n : Int} (hdp : dp + 1 < recursionLimit) (h0 : 0 < e.length) (h1 : e.length ≤ 100) (hv : itemVal? e = some n) (hn0 : 0 ≤ n) (hn1 : n < 4294967296)
    (hret : ∀ (t : Tok) (h' : Heap) (tk' : Nat), Fr h₀ L h' m → News h₀ L h' news → Q (.int n t) { s with heap := h', toks := tk' }) :
    wpAny (model PySem.Challenge.rw_ci0003_01.row.prog w) (ktrTop dp un gd cn cs L a ccd cl outer) (call (.ref 33) [.str e t]) Q E s := by
  revert X; k_fill; intro X
  refine wpAny_call ?_
  k_dflt cell_enter
  k_steps
  · have hm : isMark e = true := by assumption
    obtain ⟨k, hk1, hk2⟩ : ∃ k, PySem.intText? (Txt.slice e none (some (-1))) = some k ∧ k + 2147483648 = n := by
      unfold itemVal? at hv
      rw [if_pos hm] at hv
      exact Option.map_eq_some_iff.mp hv
    refine KIN.call_text hk1 (by omega) ?_
    k_steps
    subst hk2
    exact hret _ _ _ (by k_asm) (cb_drop (by assumption) (by intro p hp; exact List.Mem.tail _ hp))
  · have hm : ¬ isMark e = true := by rw [Bool.not_eq_true]; assumption
    have hk1 : PySem.intText? e = some n := by
      unfold itemVal? at hv
      rwa [if_neg hm] at hv
    refine KIN.call_text hk1 (by omega) ?_
    k_steps
    exact hret _ _ _ (by k_asm) (cb_drop (by assumption) (by intro p hp; exact List.Mem.tail _ hp))
end
def ItemsOk (qs : List PySem.Str) (ns : List Int) : Prop := qs.length = ns.length ∧ ∀ (i : Nat) (e : PySem.Str), qs[i]? = some e → ∃ n : Int, ns[i]? = some n ∧ 0 < e.length ∧ e.length ≤ 100 ∧ itemVal? e = some n ∧ 0 ≤ n ∧ n < 4294967296
def stepsOf (ps : List PySem.Str) : List PySem.Str := if ps.head? = some (PySem.Str.ofString "m") then ps.tail else ps
theorem pick_tail (v : Value) (vs : List Value) : slicePick (v :: vs).toArray (some 1) none none = vs.toArray := by
  have e : sliceBounds (some 1) none none (v :: vs).toArray.size = (((1 : Nat) : Int), ((vs.length + 1 : Nat) : Int), 1) := by
    simp only [sliceBounds, Option.getD_none, show (1 : Int) > 0 by decide, if_true, List.size_toArray, List.length_cons]
    simp
    omega
  rw [kmk_pick_nat _ e]
  simp
end Mine
end
/-! Par2 -/
section
open PySem PySem.W PyProof.Rows PySem.Calls
namespace Mine
section
variable {w : World} {dp un : Nat} {gd : Option (List Code)} {cn : PySem.Str} {cs : Scope} {a : Addr} {ccd : Value} {cl : List (PySem.Str × Addr)} {outer : List Env} {A₀ : Around} {base h₀ : Heap} {L : Addr} {m mg mb : PySem.Str → Option Value} {mean : ExcName → Option Value} {loose : List PySem.Str} {s : Shared} {Q E : Value → Shared → Prop} {news : List (Addr × Obj)}
variable (B : Below A₀ base outer h₀) (F : Fr h₀ L s.heap m) (X : (hd.heap_39 w.params).In h₀) (N : News h₀ L s.heap news) (T : Top hd.view_39 loose mean mg mb h₀) (hk : cs.kind = .function)
include B F X N T hk
local macro_rules | `(tactic| walk_at "eval ListComp") => `(tactic| (k_here; refine Stop.go ?_))
local macro_rules | `(tactic| walk_at "CompSrc") => `(tactic| (k_here; refine Stop.go ?_))
local macro_rules | `(tactic| walk_at "CompEnd") => `(tactic| (refine Stop.go ?_))
local macro_rules | `(tactic| walk_at "call ref") => `(tactic| (k_here; (with_reducible show wpAny _ _ (call (Value.ref 33) _) _ _ _); refine Stop.go ?_))
local macro_rules | `(tactic| walk_at "call builtin:len") => `(tactic| (k_here; (with_reducible show wpAny _ _ (call (Value.builtin "len") [Value.ref _]) _ _ _); refine Stop.go ?_))
omit B F X N T hk in
theorem off1_of {D : Addr} : ∀ {l : List (Addr × Obj)}, (∀ p ∈ l, p.1 ≠ D) → LCg.Off1 D l
  | [], _ => trivial
  | _ :: _, h => ⟨h _ List.mem_cons_self, off1_of fun p hp => h p (List.mem_cons_of_mem _ hp)⟩
omit B F X N T hk in
theorem off1_allLt {D : Addr} : ∀ {l : List (Addr × Obj)}, AllLt D l → LCg.Off1 D l
  | [], _ => trivial
  | _ :: _, h => ⟨Nat.ne_of_lt h.1, off1_allLt h.2⟩
omit B F X N T hk in
theorem A_cut {M : Model} {A : Around} {env : Env} {st : Stmt} {rest : List Stmt} {Q : Flow → Shared → Prop} {E : Value → Shared → Prop} {s : Shared} (R : Shared → Prop)
    (h : wpAny M A (exec st env) (fun f s' => Stop (f = .next ∧ R s')) E s) (k : ∀ s', R s' → wpAny M A (execs rest env) Q E s') : wpAny M A (execs (st :: rest) env) Q E s := by
  refine wpAny_execs_cons (wpAny_mono h (fun f s' hh => ?_) fun _ _ he => he)
  obtain ⟨rfl, r⟩ := hh
  exact k s' r
omit B F X N T hk in
theorem A_pre {M : Model} {A : Around} {env : Env} {st : Stmt} {rest : List Stmt} {Q : Flow → Shared → Prop} {E : Value → Shared → Prop} {s : Shared}
    (h : wpAny M A (exec st env) (fun f s' => Stop (match f with | .next => wpAny M A (execs rest env) Q E s' | f => Q f s')) E s) : wpAny M A (execs (st :: rest) env) Q E s := wpAny_execs_cons h
omit B F X N T hk in
theorem ne_allLt {D : Addr} : ∀ {l : List (Addr × Obj)}, AllLt D l → ∀ p ∈ l, p.1 ≠ D
  | [], _, _, h => nomatch h
  | _ :: _, x, p, h => by
    rcases List.mem_cons.mp h with rfl | h
    · exact Nat.ne_of_lt x.1
    · exact ne_allLt x.2 p h
theorem parse_c {x : PySem.Str} {t : Tok} {ps : List PySem.Str} {ns : List Int} (hdp : dp + 2 < recursionLimit) (hu : un + 16 < cLine) (h1 : x.length ≤ 1000)
    (hps : Txt.split (Txt.rstripChars x (PySem.Str.ofString "/")) (PySem.Str.ofString "/") = ps) (hqs : ItemsOk (stepsOf ps) ns) (hns : ns.length ≤ 100)
    (hret : ∀ (D : Addr) (vs : List Value) (h' : Heap) (tk' : Nat) (k : Nat), Fr h₀ L h' m → News h₀ L h' ((D, { cls := .type "list", data := .seq vs.toArray k }) :: news) → IntsAre vs ns → LCg.Off1 D news → Q (.ref D) { s with heap := h', toks := tk' }) :
    wpAny (model PySem.Challenge.rw_ci0003_01.row.prog w) (ktrTop dp un gd cn cs L a ccd cl outer) (call (.ref 38) [.str x t]) Q E s := by
  revert X; k_fill; intro X
  refine wpAny_call ?_
  k_dflt cell_enter
  rename_i g1 L1 _ _ _ _ _ _ _
  refine A_pre ?_
  k_steps
  refine Stop.mk ?_
  rename_i l hA kk hlook hS hlen hL h2 F4 N4
  have hl0 : l.map (·.1) = ps := hlook.trans hps
  refine A_cut (fun s' => ∃ (D : Addr) (lv : List (PySem.Str × Tok)) (kk : Nat) (n₁ : List (Addr × Obj)) (h5 : Heap) (t5 : Nat) (u : PySem.Str → Option Value), s' = { s with heap := h5, toks := t5 } ∧ lv.map (·.1) = stepsOf ps ∧ Fr g1 L1 h5 (fun y => if y = PySem.Str.ofString "arr" then some (.ref D) else u y) ∧ News g1 L1 h5 ((D, ({ cls := .type "list", data := .seq (strValues lv).toArray kk } : Obj)) :: n₁) ∧ ∀ p ∈ news, p ∈ n₁) ?_ ?_
  · k_steps
    · rename_i y t1 hy hm ha hb F5 N5
      have hps' := hlook.trans hps
      cases l with
      | nil => simp at hy
      | cons p0 l' =>
        obtain ⟨y0, t0⟩ := p0
        have e0 : y0 = y := by simpa using hy
        subst e0
        have e1 : y0 = PySem.Str.ofString "m" := by simpa using hm
        have hq : stepsOf ps = l'.map (·.1) := by
          rw [← hps']
          unfold stepsOf
          rw [List.map_cons, e1]
          simp
        rw [show strValues ((y0, t0) :: l') = Value.str y0 t0 :: strValues l' from rfl] at N5
        rw [pick_tail] at N5
        exact Stop.mk ⟨rfl, _, l', _, _, _, _, _, rfl, hq.symm, F5, N5, fun p hp => .tail _ hp⟩
    · rename_i y t1 hy hm
      have hps' := hlook.trans hps
      have hq : stepsOf ps = ps := by
        rw [← hps']
        unfold stepsOf
        rw [if_neg]
        intro e
        rw [List.head?_eq_getElem?] at e
        have e2 := hy.symm.trans e
        cases e2
        simp at hm
      exact Stop.mk ⟨rfl, _, l, _, _, _, _, _, rfl, hps'.trans hq.symm, F4, N4, fun p hp => hp⟩
  clear N4 F4 hS hA hL hlen hlook h2 hl0
  rintro _ ⟨D, lv, kk, n₁, h5, t5, u, rfl, hq, F4, N4, hsub⟩
  rw [← hq] at hqs
  have hS : StrsAre (strValues lv) (lv.map (·.1)) := strsAre_of_values lv
  have hl : (strValues lv).length = ns.length := (strsAre_len hS).trans hqs.1
  k_steps
  unfold Stop
  refine Calls.call_len_list (items := (strValues lv).toArray) (News.isList N4 (.head _)) (by rw [List.size_toArray]; omega) ?_
  k_steps
  · have e : (strValues lv).length = 0 := by simpa using ‹((strValues lv).toArray.size : Int) = 0›
    have e2 : ns = [] := List.eq_nil_of_length_eq_zero (by omega)
    subst e2
    rename_i l1 _ _ _ _
    exact hret _ [] _ _ 0 (by k_asm) (cb_drop (by assumption) (by intro p hp; rcases List.mem_cons.mp hp with rfl | hp; exact List.Mem.head _; exact List.Mem.tail _ (List.Mem.tail _ (hsub p hp)))) .nil (off1_of fun p hp => ne_allLt l1.2 p (hsub p hp))
  · unfold Stop
    k_dflt (refine LCg.ListComp_U (F₀ := by k_asm) (by rfl) (by decide) (by rfl) (by decide) (by rfl) ?_)
    k_steps
    unfold Stop
    refine LCg.CompSrc.ledger (by rfl) (by k_asm) (by k_asm) (by k_mem) (by rw [List.size_toArray, sizeLine_eq]; omega) ?_
    intro g9
    refine comp_all (fun i y => ∃ (n : Int) (t : Tok), ns[i]? = some n ∧ y = .int n t) ?_ ?_ ?_
    · intro i v I oI C oC D m2 ys h tk E' hi hv hC hx F9 N9 off ne hS9
      obtain ⟨e, te, he, rfl⟩ := strsAre_at hS i v (by simpa using hv)
      obtain ⟨n, hn, p1, p2, p3, p4, p5⟩ := hqs.2 i e he
      k_steps
      unfold Stop
      refine item_c (by k_asm) (by k_asm) (by k_asm) (by k_asm) (by k_asm) rfl (by ktr_room) p1 p2 p3 p4 p5 ?_
      intro t8 h8 tk8 F8 N8
      refine LCg.CompEnd.intro F8 N8 _ (fun p hp => hp) off hS9 ⟨rfl, n, t8, hn, rfl⟩
    · exact .inr ⟨_, List.Mem.head _, rfl, _, rfl⟩
    · intro ys hy1 hy2
      unfold LCg.FinE
      intro D h' tk F9 N9 o9
      k_steps
      refine hret D ys _ _ ys.length (by k_asm) (cb_drop (by assumption) (by intro p hp; rcases List.mem_cons.mp hp with rfl | hp; exact List.Mem.head _; exact List.Mem.tail _ (List.Mem.tail _ (hsub p hp)))) ?_ (off1_of fun p hp => off1_ne o9.2 p (hsub p hp))
      exact intsAre_of (by rw [hy1, List.size_toArray, hl]) hy2
end
end Mine
end
section
local macro_rules | `(tactic| walk_at "True") => `(tactic| trivial)
theorem Mine.anew_Hex : True := by
  w_top off
  walk1
end
/-! Hex -/
section
open PySem PySem.W PyProof.Rows PySem.Calls
namespace Mine
section
variable {w : World} {dp un : Nat} {gd : Option (List Code)} {cn : PySem.Str} {cs : Scope} {a : Addr} {ccd : Value} {cl : List (PySem.Str × Addr)} {outer : List Env} {A₀ : Around} {base h₀ : Heap} {L : Addr} {m mg mb : PySem.Str → Option Value} {mean : ExcName → Option Value} {loose : List PySem.Str} {s : Shared} {Q E : Value → Shared → Prop} {news : List (Addr × Obj)}
variable (B : Below A₀ base outer h₀) (F : Fr h₀ L s.heap m) (X : (hd.heap_39 w.params).In h₀) (N : News h₀ L s.heap news) (T : Top hd.view_39 loose mean mg mb h₀) (hk : cs.kind = .function)
include B F X N T hk
local macro_rules | `(tactic| k_all) => `(tactic| first | exact all_neF (by assumption) (by first | exact Nat.le_refl _ | exact Nat.le_succ _ | exact Nat.le_add_right _ _ | omega) | exact all_ne (by assumption) (by first | exact Nat.le_refl _ | exact Nat.le_succ _ | omega) | exact off1_ne (by assumption))
omit B F X N T hk
def hx (v : Nat) : Nat := if v < 10 then 48 + v else 87 + v
def hexL (b : Array UInt8) : List Nat := b.toList.flatMap fun c => [hx (c.toNat / 16), hx (c.toNat % 16)]
def hexB (b : Array UInt8) : Array UInt8 := byteArr ((hexL b).map fun (v : Nat) => (v : Int))
def hexR (b : Array UInt8) (i j : Nat) (y : Value) : Prop := ∃ (c : UInt8) (t : Tok), b[i]? = some c ∧ y = .int ((hx (if j = 0 then c.toNat / 16 else c.toNat % 16) : Nat) : Int) t
theorem hexTab : ∀ v, v < 16 → (([48, 49, 50, 51, 52, 53, 54, 55, 56, 57, 97, 98, 99, 100, 101, 102] : List UInt8).getD v 0).toNat = hx v := by decide
theorem hex_hi {n : Nat} (h : n < 256) : (((([48, 49, 50, 51, 52, 53, 54, 55, 56, 57, 97, 98, 99, 100, 101, 102] : List UInt8).getD ((((n : Int).fdiv (16 ^ Int.toNat 1)).fmod 16).toNat) 0).toNat : Nat) : Int) = ((hx (n / 16) : Nat) : Int) := by
  have e : (((n : Int).fdiv (16 ^ Int.toNat 1)).fmod 16).toNat = n / 16 := by
    rw [show ((16 : Int) ^ Int.toNat 1) = 16 by decide, Int.fdiv_eq_ediv_of_nonneg _ (by decide), Int.fmod_eq_emod_of_nonneg _ (by decide)]
    omega
  rw [e, hexTab _ (by omega)]
theorem hex_lo {n : Nat} : (((([48, 49, 50, 51, 52, 53, 54, 55, 56, 57, 97, 98, 99, 100, 101, 102] : List UInt8).getD ((((n : Int).fdiv (16 ^ Int.toNat 0)).fmod 16).toNat) 0).toNat : Nat) : Int) = ((hx (n % 16) : Nat) : Int) := by
  have e : (((n : Int).fdiv (16 ^ Int.toNat 0)).fmod 16).toNat = n % 16 := by
    rw [show ((16 : Int) ^ Int.toNat 0) = 1 by decide, Int.fdiv_eq_ediv_of_nonneg _ (by decide), Int.fmod_eq_emod_of_nonneg _ (by decide)]
    omega
  rw [e, hexTab _ (by omega)]
theorem pair_at {α : Type} (f g : α → Nat) : ∀ (l : List α) (i j : Nat) (c : α), l[i]? = some c → j < 2 → (l.flatMap fun c => [f c, g c])[i * 2 + j]? = some (if j = 0 then f c else g c)
  | [], i, _, c, h, _ => by simp at h
  | d :: l, 0, j, c, h, hj => by
    cases h
    match j, hj with
    | 0, _ => rfl
    | 1, _ => rfl
  | d :: l, i + 1, j, c, h, hj => by
    have e : (i + 1) * 2 + j = (i * 2 + j) + 2 := by omega
    rw [e]
    exact pair_at f g l i j c (by simpa using h) hj
theorem hexL_len (b : Array UInt8) : (hexL b).length = b.size * 2 := by
  unfold hexL
  rw [← Array.length_toList]
  generalize b.toList = l
  induction l with
  | nil => rfl
  | cons c l ih => rw [List.flatMap_cons, List.length_append, ih, List.length_cons]; simp; omega
theorem hx_lt {v : Nat} (h : v < 16) : 48 ≤ hx v ∧ hx v < 128 := by unfold hx; split <;> omega
theorem hexL_in (b : Array UInt8) : ∀ n ∈ hexL b, 48 ≤ n ∧ n < 128 := by
  intro n hn
  obtain ⟨c, _, hc⟩ := List.mem_flatMap.mp hn
  have := c.toNat_lt
  rcases List.mem_cons.mp hc with rfl | hc
  · exact hx_lt (by omega)
  · rw [List.mem_singleton.mp hc]; exact hx_lt (by omega)
theorem hex_ints {b : Array UInt8} {ys : List Value} (hl : ys.length = b.size * 2) (hR : ∀ (i j : Nat) (y : Value), j < 2 → ys[i * 2 + j]? = some y → hexR b i j y) : IntsAre ys ((hexL b).map fun (v : Nat) => (v : Int)) := by
  refine intsAre_of (by rw [List.length_map, hexL_len, hl]) fun k y hy => ?_
  have e : k = k / 2 * 2 + k % 2 := by omega
  rw [e] at hy
  obtain ⟨c, t, hc, rfl⟩ := hR _ _ _ (by omega) hy
  refine ⟨_, t, ?_, rfl⟩
  rw [List.getElem?_map, e, show hexL b = b.toList.flatMap fun c => [hx (c.toNat / 16), hx (c.toNat % 16)] from rfl, pair_at _ _ _ _ _ c (by simpa using hc) (by omega)]
  simp only [Option.map_some]
  congr 2
  have : (k / 2 * 2 + k % 2) % 2 = k % 2 := by omega
  rw [this]
  split <;> rfl
theorem hexR_mk {b : Array UInt8} {i j : Nat} {c : UInt8} {n : Int} {t : Tok} (hc : b[i]? = some c) (h : n = ((hx (if j = 0 then c.toNat / 16 else c.toNat % 16) : Nat) : Int)) : hexR b i j (.int n t) := ⟨c, t, hc, by rw [h]⟩
include B F X N T hk
local macro_rules | `(tactic| walk_at "eval ListComp") => `(tactic| (k_here; refine Stop.go ?_))
local macro_rules | `(tactic| walk_at "Src2") => `(tactic| (refine Stop.go ?_))
local macro_rules | `(tactic| walk_at "Inner2") => `(tactic| (refine Stop.go ?_))
local macro_rules | `(tactic| walk_at "EltEnd") => `(tactic| (refine Stop.go ?_))
local macro_rules | `(tactic| walk_at "call type:bytes") => `(tactic| (refine Stop.go ?_))
theorem hex_c {b : Array UInt8} {t : Tok} (hdp : dp + 1 < recursionLimit) (hu : un + 8 < cLine) (hb : b.size = 4)
    (hret : ∀ (t : Tok) (h' : Heap) (tk' : Nat), Fr h₀ L h' m → News h₀ L h' news → Q (.bytes (hexB b) t) { s with heap := h', toks := tk' }) :
    wpAny (model PySem.Challenge.rw_ci0003_01.row.prog w) (ktrTop dp un gd cn cs L a ccd cl outer) (call (.ref 26) [.bytes b t]) Q E s := by
  revert X; k_fill; intro X
  refine wpAny_call ?_
  k_dflt (refine' code_defC ?k1 ?k2 ?k3 ?k4 ?k5 ?kA ?kF ?kK ?k6 ?k7 ?k8 ?k9 ?kB ?kD ?_ ?c2 ?c3 ?c4; (case kA => exact rfl); (case kF => exact rfl); (case kK => assumption); (case k1 => k_asm); (case k2 => k_asm); (case k3 => k_asm); (case k4 => k_asm); (case k5 => k_asm); (case k6 => k_is); (case k7 => k_is); (case k8 => ktr_room); (case k9 => first | exact BindsTo.of_eq rfl | exact binds_K (by k_in) rfl (by k_is) rfl rfl rfl); (case kB => exact rfl); (case kD => decide +kernel); (case c2 => exact rfl); (case c3 => exact rfl); (case c4 => exact rfl); k_whole; intro g' L' h' tk' cells' FG' F' N' Y' B' X' T' l1; (try k_lt l1); k_cells Y'; (try simp only [List.cons_append, List.nil_append] at N'); (try dsimp only); (try k_lift B'); (try k_fold))
  k_steps
  unfold Stop
  k_dflt (refine comp2 (by k_asm) (by with_unfolding_all rfl) (by decide) (by rfl) (by decide) (by rfl) (by rfl) (by decide) 2 hexR ?_ (by intro _; rfl) (by intro _ _; rfl))
  k_steps
  unfold Stop
  refine ⟨b, t, _, rfl, rfl, by k_asm, by k_asm, by rw [hb, PySem.sizeLine_eq]; decide, ?_, ?_⟩
  · intro i c u I oI C oC D m₂ ys h tk E' hc hC hx F9 N9 off ne
    simp only [LCg.Off3, and_true] at off
    have hc1 := c.toNat_lt
    k_steps
    unfold Stop
    rename_i T h2 F2 N2 l2
    refine ⟨_, T, _, _, _, _, ?_, rfl, rfl, rfl, rfl, by k_asm, by k_asm, ?_, ?_⟩
    · rfl
    · exact all_ne l2 (Nat.le_refl _)
    · intro j v2 I2 oI2 oC2 m₃ ys2 h3 tk3 E'' hv2 hC2 hx1 hx2 F3 N3
      match j, hv2 with
      | 0, hv2 =>
        obtain rfl := Option.some.inj hv2
        k_steps
        unfold Stop
        exact ⟨_, _, rfl, by k_asm, by k_asm, hexR_mk hc (hex_hi hc1)⟩
      | 1, hv2 =>
        obtain rfl := Option.some.inj hv2
        k_steps
        unfold Stop
        exact ⟨_, _, rfl, by k_asm, by k_asm, hexR_mk hc hex_lo⟩
  · intro D h tk ys hl hR F9 N9 o9
    k_steps
    unfold Stop
    refine KBa.make_K (by k_asm) (by k_asm) rfl (News.isList N9 (.head _)) (hex_ints hl hR) ?_ ?_ ?_
    · intro n hn
      obtain ⟨v, hv, rfl⟩ := List.mem_map.mp hn
      have := hexL_in b v hv
      omega
    · rw [List.length_map, hexL_len, hb]; decide
    intro h7 t7 k7 F7 N7 i7
    k_steps
    exact hret _ _ _ (by k_asm) (cb_drop (by assumption) (by intro p hp; exact List.Mem.tail _ (List.Mem.tail _ hp)))
end
end Mine
end
section
open PySem PySem.W PyProof.Rows PySem.Calls
namespace Mine
local macro_rules | `(tactic| walk_at "exec For") => `(tactic| (k_here; refine Stop.go ?_))
local macro_rules | `(tactic| walk_at "binaryOp Mod str int") => `(tactic| (k_here; refine Stop.go ?_))
local macro_rules | `(tactic| walk_at "inplaceOp Add str str") => `(tactic| (k_here; refine Stop.go ?_))
local macro_rules | `(tactic| walk_at "TurnEnd") => `(tactic| (refine Stop.go ?_))
/-! Pts -/
section
open PySem PySem.W PyProof.Rows PySem.Calls
section
variable {w : World} {dp un : Nat} {gd : Option (List Code)} {cn : PySem.Str} {cs : Scope} {a : Addr} {ccd : Value} {cl : List (PySem.Str × Addr)} {outer : List Env} {A₀ : Around} {base h₀ : Heap} {L : Addr} {m mg mb : PySem.Str → Option Value} {mean : ExcName → Option Value} {loose : List PySem.Str} {s : Shared} {Q E : Value → Shared → Prop} {news : List (Addr × Obj)}
variable (B : Below A₀ base outer h₀) (F : Fr h₀ L s.heap m) (X : (hd.heap_39 w.params).In h₀) (N : News h₀ L s.heap news) (T : Top hd.view_39 loose mean mg mb h₀) (hk : cs.kind = .function)
include B F X N T hk
omit B F X N T hk in
theorem fmt_h {prog : Program} {A : Around} {n : Int} {t t2 : Tok} {Q E : Value → Shared → Prop} {s : Shared} (h0 : 0 ≤ n) (h1 : n < 4294967296)
    (h : ∀ t' k, Q (.str (PySem.Str.ofString "/" ++ PySem.Str.ofString (toString n) ++ PySem.Str.ofString "h") t') { s with toks := k }) :
    wpAny (model prog w) A (binaryOp .Mod (.str (PySem.Str.ofString "/%dh") t) (.int n t2)) Q E s := by
  refine' KPc.mod_int ?kpcF ?kpcl ?kpch ?kpcm ?_; (case kpcF => kpc_eq); (case kpcl => omega); (case kpch => omega); (case kpcm => k_dflt kpc_run)
  intro t' k
  exact h t' k
omit B F X N T hk in
theorem fmt_n {prog : Program} {A : Around} {n : Int} {t t2 : Tok} {Q E : Value → Shared → Prop} {s : Shared} (h0 : 0 ≤ n) (h1 : n < 4294967296)
    (h : ∀ t' k, Q (.str (PySem.Str.ofString "/" ++ PySem.Str.ofString (toString n)) t') { s with toks := k }) :
    wpAny (model prog w) A (binaryOp .Mod (.str (PySem.Str.ofString "/%d") t) (.int n t2)) Q E s := by
  refine' KPc.mod_int ?kpcF ?kpcl ?kpch ?kpcm ?_; (case kpcF => kpc_eq); (case kpcl => omega); (case kpch => omega); (case kpcm => k_dflt kpc_run)
  intro t' k
  exact h t' k
omit B F X N T hk in
theorem told_step {p : List Nat} {ns : List Int} {i : Nat} {n : Int} (hn : ns[i]? = some n) (h0 : 0 ≤ n) :
    (2147483648 ≤ n → lit (p ++ (ns.take i).flatMap tellL) ++ (PySem.Str.ofString "/" ++ PySem.Str.ofString (toString (n - 2147483648)) ++ PySem.Str.ofString "h") = lit (p ++ (ns.take (i + 1)).flatMap tellL)) ∧
    (¬ 2147483648 ≤ n → lit (p ++ (ns.take i).flatMap tellL) ++ (PySem.Str.ofString "/" ++ PySem.Str.ofString (toString n)) = lit (p ++ (ns.take (i + 1)).flatMap tellL)) := by
  refine ⟨fun h => ?_, fun h => ?_⟩
  · rw [flat_take tellL hn, str_num (by omega), s_slash, s_h]
    simp only [lit_app]
    simp [tellL, stepL, if_neg (show ¬ n < 2147483648 by omega)]
  · rw [flat_take tellL hn, str_num h0, s_slash]
    simp only [lit_app]
    simp [tellL, stepL, if_pos (show n < 2147483648 by omega)]
theorem pts_c {D : Addr} {vs : List Value} {ns : List Int} {k : Nat} (hdp : dp + 2 < recursionLimit) (hu : un + 16 < cLine)
    (hD : (D, ({ cls := .type "list", data := .seq vs.toArray k } : Obj)) ∈ news) (hv : IntsAre vs ns) (hns : ns.length ≤ 100) (hb : ∀ n ∈ ns, 0 ≤ n ∧ n < 4294967296)
    (hret : ∀ (t : Tok) (h' : Heap) (tk' : Nat), Fr h₀ L h' m → News h₀ L h' news → Q (.str (lit (109 :: ns.flatMap tellL)) t) { s with heap := h', toks := tk' }) :
    wpAny (model PySem.Challenge.rw_ci0003_01.row.prog w) (ktrTop dp un gd cn cs L a ccd cl outer) (call (.ref 46) [.ref D]) Q E s := by
  revert X; k_fill; intro X
  have hl : ∀ i, (lit ([109] ++ (ns.take i).flatMap tellL)).length ≤ 2000 := fun i => by
    have h1 := flat_len tellL 12 (ns.take i) fun n hn => tellL_len (hb n (List.mem_of_mem_take hn)).1 (hb n (List.mem_of_mem_take hn)).2
    have h2 := List.length_take_le i ns
    have h3 : (ns.take i).length ≤ ns.length := by rw [List.length_take]; exact Nat.min_le_right _ _
    rw [lit_len, List.length_append]
    simp only [List.length_singleton]
    omega
  refine wpAny_call ?_
  k_dflt (refine' code_def ?k1 ?k2 ?k3 ?k4 ?k5 ?kA ?kF ?kK ?k6 ?k7 ?k8 ?k9 ?kB ?_ ?c2 ?c3 ?c4 ?c5; (case kA => exact rfl); (case kF => exact rfl); (case kK => assumption); (case k1 => k_asm); (case k2 => k_asm); (case k3 => k_asm); (case k4 => k_asm); (case k5 => k_asm); (case k6 => k_is); (case k7 => k_is); (case k8 => ktr_room); (case k9 => exact binds_K (by k_in) rfl (by k_is) rfl rfl rfl); (case c5 => decide); (case kB => exact locs rfl); (case c2 => exact rfl); (case c3 => exact rfl); (case c4 => exact rfl); k_whole; intro g' L' h' FG' F' N' B' X' T'; (try dsimp only); (try k_lift B'); (try k_fold))
  k_steps
  unfold Stop
  k_dflt (refine for_led (by k_asm) (D := D) (vs := vs) (k := k) (fun i m₁ n₁ => n₁ = news ∧ ∃ (t : Tok) (u : PySem.Str → Option Value), m₁ = fun y => if y = PySem.Str.ofString "s" then some (.str (lit ([109] ++ (ns.take i).flatMap tellL)) t) else u y) (by rfl) (by rfl) (by rfl) (by rintro i m₁ n₁ ⟨rfl, _⟩; exact hD) (by intro _; rfl) (by passes_own) ?_)
  k_steps
  unfold Stop
  refine ⟨_, news, by k_asm, by k_asm, ⟨rfl, _, _, by rw [List.take_zero, s_m]; rfl⟩, ?_, ?_⟩
  · rintro i v m₁ n₁ I oI h tk hv' ⟨rfl, t, u, rfl⟩ ha hne F9 N9
    obtain ⟨n, t2, rfl, hn⟩ := IntsAre.at hv i v hv'
    obtain ⟨b0, b1⟩ := hb n (List.mem_of_getElem? hn)
    have hl1 := hl i
    dsimp only [envOf] at F9 N9
    k_steps
    · unfold Stop
      rename_i hge
      refine fmt_h (by omega) (by omega) ?_
      intro t6 k6
      k_steps
      unfold Stop
      have hd := KT.len_num (n := n - 2147483648) (by omega) (by omega)
      refine SBL.iadd (hsz := ?hsz) ?_
      case hsz =>
        rw [PySem.sizeLine_eq]
        simp only [PySem.Str.length_append]
        rw [s_slash, s_h, lit_len [47], lit_len [104]]
        simp only [List.length_singleton]
        omega
      intro t' k' _
      rw [(told_step (p := [109]) hn b0).1 (by omega)]
      k_steps
      unfold Stop
      exact TurnEnd.mk (by k_asm) (by k_asm) rfl ⟨rfl, _, _, rfl⟩
    · unfold Stop
      rename_i hge
      refine fmt_n (by omega) (by omega) ?_
      intro t6 k6
      k_steps
      unfold Stop
      have hd := KT.len_num (n := n) (by omega) (by omega)
      refine SBL.iadd (hsz := ?hsz) ?_
      case hsz =>
        rw [PySem.sizeLine_eq]
        simp only [PySem.Str.length_append]
        rw [s_slash, lit_len [47]]
        simp only [List.length_singleton]
        omega
      intro t' k' _
      rw [(told_step (p := [109]) hn b0).2 (by omega)]
      k_steps
      unfold Stop
      exact TurnEnd.mk (by k_asm) (by k_asm) rfl ⟨rfl, _, _, rfl⟩
  · rintro m₁ n₁ h tk ⟨rfl, t, u, rfl⟩ ha F9 N9
    dsimp only [envOf] at F9 N9
    k_steps
    have e : ns.take vs.length = ns := List.take_of_length_le (by rw [hv.length]; exact Nat.le_refl _)
    rw [e]
    exact hret _ _ _ (by k_asm) (by k_asm)
end
end
/-! Ptf -/
section
open PySem PySem.W PyProof.Rows PySem.Calls
section
variable {w : World} {dp un : Nat} {gd : Option (List Code)} {cn : PySem.Str} {cs : Scope} {a : Addr} {ccd : Value} {cl : List (PySem.Str × Addr)} {outer : List Env} {A₀ : Around} {base h₀ : Heap} {L : Addr} {m mg mb : PySem.Str → Option Value} {mean : ExcName → Option Value} {loose : List PySem.Str} {s : Shared} {Q E : Value → Shared → Prop} {news : List (Addr × Obj)}
variable (B : Below A₀ base outer h₀) (F : Fr h₀ L s.heap m) (X : (hd.heap_39 w.params).In h₀) (N : News h₀ L s.heap news) (T : Top hd.view_39 loose mean mg mb h₀) (hk : cs.kind = .function)
include B F X N T hk
local macro_rules | `(tactic| walk_at "call ref") => `(tactic| (k_here; (with_reducible show wpAny _ _ (call (Value.ref 26) _) _ _ _); refine Stop.go ?_))
local macro_rules | `(tactic| walk_at "call builtin:bytes.decode") => `(tactic| (k_here; refine Stop.go ?_))
omit B F X N T hk in
theorem hexB_back (b : Array UInt8) : (hexB b).toList.map (·.toNat) = hexL b := by
  unfold hexB byteArr
  rw [List.map_map, List.map_map]
  conv => rhs; rw [← List.map_id (hexL b)]
  refine List.map_congr_left fun n hn => ?_
  have := hexL_in b n hn
  show (((n : Int).toNat).toUInt8).toNat = n
  rw [Int.toNat_natCast]
  show n % 256 = n
  omega
omit B F X N T hk in
theorem dec_hex {prog : Program} {A : Around} {b : Array UInt8} {t : Tok} (hb : b.size = 4) (h : ∀ t' k, Q (.str (lit (hexL b)) t') { s with toks := k }) :
    wpAny (model prog w) A (call (.builtin "bytes.decode") [.bytes (hexB b) t]) Q E s := by
  have hl : (hexB b).toList.length = 8 := by
    have e := congrArg List.length (hexB_back b)
    rw [List.length_map, hexL_len, hb] at e
    exact e
  obtain ⟨c, cs, e⟩ : ∃ c cs, (hexB b).toList = c :: cs := by
    cases q : (hexB b).toList with
    | nil => rw [q] at hl; cases hl
    | cons c cs => exact ⟨c, cs, rfl⟩
  have e2 : hexB b = (c :: cs).toArray := by rw [← e, Array.toArray_toList]
  rw [e2]
  refine KBd.decode (n := (c :: cs).toArray.size) (fun id => ?_) (by rw [lit_len, hexL_len, hb]; decide) h
  rw [run_ascii id _ (fun d hd => ?_) (by rw [List.size_toArray, ← e, hl]; decide), ← e2, hexB_back]
  · rfl
  · rw [← e2] at hd
    have hm : d.toNat ∈ hexL b := by rw [← hexB_back]; exact List.mem_map_of_mem hd
    exact (hexL_in b _ hm).2
theorem ptf_c {D : Addr} {vs : List Value} {ns : List Int} {k : Nat} {b : Array UInt8} {tb : Tok} (hdp : dp + 2 < recursionLimit) (hu : un + 16 < cLine) (hbs : b.size = 4)
    (hD : (D, ({ cls := .type "list", data := .seq vs.toArray k } : Obj)) ∈ news) (hv : IntsAre vs ns) (hns : ns.length ≤ 100) (hb : ∀ n ∈ ns, 0 ≤ n ∧ n < 4294967296)
    (hret : ∀ (t : Tok) (h' : Heap) (tk' : Nat), Fr h₀ L h' m → News h₀ L h' news → Q (.str (lit (hexL b ++ ns.flatMap tellL)) t) { s with heap := h', toks := tk' }) :
    wpAny (model PySem.Challenge.rw_ci0003_01.row.prog w) (ktrTop dp un gd cn cs L a ccd cl outer) (call (.ref 46) [.ref D, .bytes b tb]) Q E s := by
  revert X; k_fill; intro X
  have hl : ∀ i, (lit (hexL b ++ (ns.take i).flatMap tellL)).length ≤ 2000 := fun i => by
    have h1 := flat_len tellL 12 (ns.take i) fun n hn => tellL_len (hb n (List.mem_of_mem_take hn)).1 (hb n (List.mem_of_mem_take hn)).2
    have h3 : (ns.take i).length ≤ ns.length := by rw [List.length_take]; exact Nat.min_le_right _ _
    rw [lit_len, List.length_append, hexL_len]
    omega
  refine wpAny_call ?_
  k_dflt (refine' code_def ?k1 ?k2 ?k3 ?k4 ?k5 ?kA ?kF ?kK ?k6 ?k7 ?k8 ?k9 ?kB ?_ ?c2 ?c3 ?c4 ?c5; (case kA => exact rfl); (case kF => exact rfl); (case kK => assumption); (case k1 => k_asm); (case k2 => k_asm); (case k3 => k_asm); (case k4 => k_asm); (case k5 => k_asm); (case k6 => k_is); (case k7 => k_is); (case k8 => ktr_room); (case k9 => exact binds_K (by k_in) rfl (by k_is) rfl rfl rfl); (case c5 => decide); (case kB => exact locs rfl); (case c2 => exact rfl); (case c3 => exact rfl); (case c4 => exact rfl); k_whole; intro g' L' h' FG' F' N' B' X' T'; (try dsimp only); (try k_lift B'); (try k_fold))
  k_steps
  unfold Stop
  refine hex_c (by k_asm) (by k_asm) (by k_asm) (by k_asm) (by k_asm) rfl (by ktr_room) (by ktr_units) hbs ?_
  intro t8 h8 tk8 F8 N8
  k_steps
  unfold Stop
  refine dec_hex hbs ?_
  intro t9 k9
  k_steps
  unfold Stop
  k_dflt (refine for_led (by k_asm) (D := D) (vs := vs) (k := k) (fun i m₁ n₁ => n₁ = news ∧ ∃ (t : Tok) (u : PySem.Str → Option Value), m₁ = fun y => if y = PySem.Str.ofString "s" then some (.str (lit (hexL b ++ (ns.take i).flatMap tellL)) t) else u y) (by rfl) (by rfl) (by rfl) (by rintro i m₁ n₁ ⟨rfl, _⟩; exact hD) (by intro _; rfl) (by passes_own) ?_)
  k_steps
  unfold Stop
  refine ⟨_, news, by k_asm, by k_asm, ⟨rfl, _, _, by rw [List.take_zero, List.flatMap_nil, List.append_nil]⟩, ?_, ?_⟩
  · rintro i v m₁ n₁ I oI h tk hv' ⟨rfl, t, u, rfl⟩ ha hne F9 N9
    obtain ⟨n, t2, rfl, hn⟩ := IntsAre.at hv i v hv'
    obtain ⟨b0, b1⟩ := hb n (List.mem_of_getElem? hn)
    have hl1 := hl i
    dsimp only [envOf] at F9 N9
    k_steps
    · unfold Stop
      rename_i hge
      refine fmt_h (by omega) (by omega) ?_
      intro t6 k6
      k_steps
      unfold Stop
      have hd := KT.len_num (n := n - 2147483648) (by omega) (by omega)
      refine SBL.iadd (hsz := ?hsz) ?_
      case hsz =>
        rw [PySem.sizeLine_eq]
        simp only [PySem.Str.length_append]
        rw [s_slash, s_h, lit_len [47], lit_len [104]]
        simp only [List.length_singleton]
        omega
      intro t' k' _
      rw [(told_step (p := hexL b) hn b0).1 (by omega)]
      k_steps
      unfold Stop
      exact TurnEnd.mk (by k_asm) (by k_asm) rfl ⟨rfl, _, _, rfl⟩
    · unfold Stop
      rename_i hge
      refine fmt_n (by omega) (by omega) ?_
      intro t6 k6
      k_steps
      unfold Stop
      have hd := KT.len_num (n := n) (by omega) (by omega)
      refine SBL.iadd (hsz := ?hsz) ?_
      case hsz =>
        rw [PySem.sizeLine_eq]
        simp only [PySem.Str.length_append]
        rw [s_slash, lit_len [47]]
        simp only [List.length_singleton]
        omega
      intro t' k' _
      rw [(told_step (p := hexL b) hn b0).2 (by omega)]
      k_steps
      unfold Stop
      exact TurnEnd.mk (by k_asm) (by k_asm) rfl ⟨rfl, _, _, rfl⟩
  · rintro m₁ n₁ h tk ⟨rfl, t, u, rfl⟩ ha F9 N9
    dsimp only [envOf] at F9 N9
    k_steps
    have e : ns.take vs.length = ns := List.take_of_length_le (by rw [hv.length]; exact Nat.le_refl _)
    rw [e]
    exact hret _ _ _ (by k_asm) (by k_asm)
end
end
end Mine
end
/-! Bio -/
section
open PySem PySem.W PyProof.Rows PySem.Calls
namespace Mine
variable {w : World}
theorem bio_facts {h : Heap} (X : (hd.heap_39 w.params).In h) : ∃ oc od cd sl, h.get? 360 = some ⟨oc, od, .cls cd, sl⟩ ∧ cd.mro.isEmpty = false ∧ cd.abstract = false ∧ cd.hasDel = false ∧ Looks (model PySem.Challenge.rw_ci0003_01.row.prog w) h (isSubtype (.ref 360) (.type "object")) true ∧ Looks (model PySem.Challenge.rw_ci0003_01.row.prog w) h (Bind.madeBy (.ref 360)) none ∧
    Looks (model PySem.Challenge.rw_ci0003_01.row.prog w) h (Bind.staticBase (.ref 360)) (.type "object") ∧ Looks (model PySem.Challenge.rw_ci0003_01.row.prog w) h (Bind.madeBy (.type "object")) (some "object.__new__") ∧ Looks (model PySem.Challenge.rw_ci0003_01.row.prog w) h (mroOf (.ref 360)) cd.mro ∧
    Looks (model PySem.Challenge.rw_ci0003_01.row.prog w) h (isSubtype (.ref 360) (.ref 360)) true ∧ Looks (model PySem.Challenge.rw_ci0003_01.row.prog w) h (specialOf (.ref 360) "__call__") (some (.builtin "type.__call__")) ∧
    Looks (model PySem.Challenge.rw_ci0003_01.row.prog w) h (isInstance (.ref 360) (.type "type")) true ∧ Looks (model PySem.Challenge.rw_ci0003_01.row.prog w) h (typeLookup (.ref 360) "__init__") (some (.ref 147)) := by
  revert X; k_fill; intro X
  refine ⟨_, _, _, _, X _ _ (by k_is), rfl, rfl, rfl, ?_, ?_, ?_, ?_, ?_, ?_, ?_, ?_, ?_⟩
  · exact Looks.of_peek X (by kernel_rfl)
  · exact Looks.of_peek X (by kernel_rfl)
  · exact Looks.of_peek X (by kernel_rfl)
  · exact Looks.of_peek X (by kernel_rfl)
  · exact Looks.of_peek X (by kernel_rfl)
  · exact Looks.of_peek X (by kernel_rfl)
  · exact Looks.of_peek X (by kernel_rfl)
  · exact Looks.of_peek X (by kernel_rfl)
  · exact Looks.of_peek X (by kernel_rfl)
theorem bio_new {A : Around} {h₀ : Heap} {L : Addr} {m : PySem.Str → Option Value} {news : List (Addr × Obj)} {s : Shared} {Q E : Value → Shared → Prop} (F : Fr h₀ L s.heap m) (N : News h₀ L s.heap news) (X : (hd.heap_39 w.params).In s.heap)
    (hq : ∀ x dx h', Fr h₀ L h' m → News h₀ L h' ((x, instObj 360 dx) :: (dx, dictOf [] 0) :: news) → (∀ p ∈ news, p.1 < dx) → dx < x → Q (.ref x) { s with heap := h' }) :
    wpAny (model PySem.Challenge.rw_ci0003_01.row.prog w) A (call (.builtin "object.__new__") [.ref 360]) Q E s := by
  refine wpAny_call ?_
  obtain ⟨h, g, d, t, os⟩ := s
  obtain ⟨oc, od, cd, sl, hC, e4, e1, e2, top, made, base, madeO, mro, self, callF, typ, init⟩ := bio_facts X
  have FF := PySem.F.objNew
  refine codeAny_call_builtin_code (Code.quiet_builtin _ FF.quiet) ?_
  simp only [checkBuiltinCall, FF.kind, FF.split, FF.row]
  have args : Bind.checkArgs "object.__new__" ⟨.hand, "object.__new__", "__new__", .cls, []⟩ ⟨[.ref 360], []⟩ = pure () := by kernel_rfl
  rw [args]
  repeat (first | simp only [bne_self_eq_false, Bool.false_eq_true, if_false] | lk)
  refine codeAny_builtin FF.entry ?_
  unfold Builtin.«object.__new__»
  have hC2 : ((h.push { cls := .type "dict", data := .dict (([] : List DictEntry).toArray) }).push { cls := .ref 360, dict := some h.objs.size }).get? 360 = some ⟨oc, od, .cls cd, sl⟩ := Heap.get?_push_of_some _ (Heap.get?_push_of_some _ hC)
  repeat (first | simp only [e1, e2, bne_self_eq_false, Bool.false_eq_true, if_false, Bool.not_true] | lk)
  have N' := (N.push F (dictOf [] 0)).push (F.push _) (instObj 360 h.objs.size)
  rw [Heap.size_push] at N'
  dsimp only at N' ⊢
  rw [Heap.size_push]
  exact hq _ _ _ ((F.push _).push _) N' (fun p hp => Heap.lt_size (N p hp).1) (Nat.lt_succ_self _)
end Mine
end
/-! BioN -/
section
open PySem PySem.W PyProof.Rows PySem.Calls
namespace Mine
variable {w : World}
theorem bio_bind {h : Heap} (X : (hd.heap_39 w.params).In h) (x : Addr) : Looks (model PySem.Challenge.rw_ci0003_01.row.prog w) h (bindSpecial (.ref 147) (.ref x)) (.ref 147, [.ref x]) := by
  revert X; k_fill; intro X
  exact bind_fn (K := hd.heap_39 w.params) (M := model PySem.Challenge.rw_ci0003_01.row.prog w) X (f := 147) (.ref x) (by k_is)
theorem holds_no {id : String} {args : Args} (h : Builtin.Bytes.decodersThatHold.contains id = false) : holds (.builtin id args) = false := by
  obtain ⟨pos, kw⟩ := args
  rcases pos with _ | ⟨v, r⟩
  · rfl
  · cases v <;> first | rfl | exact h
theorem make_bioN {A : Around} {rest : List Value} {s : Shared} {Q E : Value → Shared → Prop} (X : (hd.heap_39 w.params).In s.heap)
    (hnew : wpAny (model PySem.Challenge.rw_ci0003_01.row.prog w) (A.under (.builtin "type.__call__" ⟨.ref 360 :: rest, []⟩)) (getAttr (.ref 360) "__new__") (fun nv s₁ =>
      wpAny (model PySem.Challenge.rw_ci0003_01.row.prog w) (A.under (.builtin "type.__call__" ⟨.ref 360 :: rest, []⟩)) (call nv (.ref 360 :: rest)) (fun v s₂ => ∃ x dx, v = .ref x ∧ s₂.heap.get? x = some (instObj 360 dx) ∧ (hd.heap_39 w.params).In s₂.heap ∧
        codeN (model PySem.Challenge.rw_ci0003_01.row.prog w) (A.under (.builtin "type.__call__" ⟨.ref 360 :: rest, []⟩)) (.call (.ref 147) ⟨.ref x :: rest, []⟩) (fun r s' => match r with | .ok (.ret v) => v = .none ∧ Q (.ref x) s' | .ok _ => False | .error e => E e s') s₂) E s₁) E s) :
    wpN (model PySem.Challenge.rw_ci0003_01.row.prog w) A (call (.ref 360) rest) Q E s := by
  refine wpN_call ?_
  obtain ⟨h, g, d, t, os⟩ := s
  obtain ⟨oc, od, cd, sl, hC, e4, e1, e2, top, made, base, madeO, mro, self, callF, typ, init⟩ := bio_facts X
  refine codeN_of_tree rfl (wpN_lift ?_)
  show wpAny _ _ (callAny (.ref 360) _) _ _ _
  refine nd_load hC ?_
  show wpAny _ _ (callAny.viaDunder (.ref 360) _) _ _ _
  unfold callAny.viaDunder
  refine wpAny_bind (callF.at ?_)
  dsimp only
  rw [tc_bind]
  refine wpAny_bind (wpAny_pure (wpAny_bind (wpAny_pure ?_)))
  refine wpAny_pure (a := Fin.again (.call (.builtin "type.__call__") ⟨.ref 360 :: rest, []⟩)) (And.intro rfl ?_)
  refine codeN_of_tree rfl (wpN_lift ?_)
  show wpAny _ A.in1 (do checkBuiltinCall "type.__call__" ⟨.ref 360 :: rest, []⟩; again (.builtin "type.__call__" ⟨.ref 360 :: rest, []⟩)) _ _ _
  refine wpAny_bind (check_slot tc_kind tc_split typ (tc_args _ _ _) (wpAny_pure ⟨Code.quiet_builtin _ (by decide +kernel), codeN_builtin (holds_no (by decide)) entry_typeCall ?_⟩))
  unfold Builtin.«type.__call__»
  refine N_if_no (by decide) ?_
  refine wpN_then (mro.here ?_)
  refine N_if_no e4 ?_
  refine wpN_then (made.here ?_)
  refine wpN_bind ?_
  refine wpN_lift (wpAny_mono hnew (fun nv s₁ h₁ => ?_) fun _ _ e => e)
  refine wpN_then (wpAny_holding (wpAny_mono h₁ (fun v s₂ h₂ => ?_) fun _ _ e => e))
  obtain ⟨x, dx, rfl, hx, X2, hI⟩ := h₂
  obtain ⟨_, _, _, _, _, _, _, _, _, _, _, _, _, self2, _, _, init2⟩ := bio_facts X2
  have t1 : Looks (model PySem.Challenge.rw_ci0003_01.row.prog w) s₂.heap (typeOf (.ref x)) (.ref 360) := (Looks.ld hx).andThen .now
  have i1 : Looks (model PySem.Challenge.rw_ci0003_01.row.prog w) s₂.heap (isInstance (.ref x) (.ref 360)) true := by unfold isInstance; exact t1.andThen self2
  have l1 : Looks (model PySem.Challenge.rw_ci0003_01.row.prog w) s₂.heap (specialOf (.ref x) "__init__") (some (.ref 147)) := by unfold specialOf; exact t1.andThen init2
  have b1 : Looks (model PySem.Challenge.rw_ci0003_01.row.prog w) s₂.heap (bindSpecial (.ref 147) (.ref x)) (.ref 147, [.ref x]) := bio_bind X2 x
  refine wpN_then (i1.here ?_)
  refine N_if_no rfl ?_
  refine wpN_bindm (P := fun r s' => r = some .none ∧ Q (.ref x) s') (wpN_holding ?_) ?_
  · unfold callSpecial?
    refine wpN_then (l1.here ?_)
    dsimp only
    refine wpN_holding (wpN_then (b1.here ?_))
    dsimp only
    refine wpN_bindm (P := fun r s' => r = .none ∧ Q (.ref x) s') (wpN_call (codeN_mono hI fun r s' z => ?_)) ?_
    · rcases r with e | (v | _ | _ | _) <;> first | exact z | exact z.elim
    · rintro _ s' ⟨rfl, q⟩
      exact wpN_pure ⟨rfl, q⟩
  · rintro _ s' ⟨rfl, q⟩
    exact wpN_pure q
end Mine
end
/-! IntBad -/
section
open PySem PySem.W PyProof.Rows PySem.Calls PyProof.V PySem.Spec
namespace Mine
section
variable {M : Model} {A : Around} {s : Shared} {E : Value → Shared → Prop} {x : PySem.Str} {t : Tok}
theorem if_noN {α : Type} {c : Bool} {t e : Sem α} {Q : α → Shared → Prop} (hc : c = false) (h : wpN M A e Q E s) : wpN M A (if c = true then t else e) Q E s := by rw [hc]; exact h
theorem if_yesN {α : Type} {c : Bool} {t e : Sem α} {Q : α → Shared → Prop} (hc : c = true) (h : wpN M A t Q E s) : wpN M A (if c = true then t else e) Q E s := by rw [hc]; exact h
theorem if_negN {α : Type} {p : Prop} [Decidable p] {t e : Sem α} {Q : α → Shared → Prop} (hc : ¬ p) (h : wpN M A e Q E s) : wpN M A (if p then t else e) Q E s := by rw [if_neg hc]; exact h
theorem if_posN {α : Type} {p : Prop} [Decidable p] {t e : Sem α} {Q : α → Shared → Prop} (hc : p) (h : wpN M A t Q E s) : wpN M A (if p then t else e) Q E s := by rw [if_pos hc]; exact h
theorem N_BinOp {env : Env} {l r : Expr} {op : Operator} {pos : Pos} {Q : Value → Shared → Prop}
    (h : wpN M A (eval l env) (fun a s₁ => wpN M A (eval r env) (fun b s₂ => wpAny M A (binaryOp op a b) Q E s₂) E s₁) E s) : wpN M A (eval (.BinOp l op r pos) env) Q E s := by
  rw [arm_eval_BinOp]
  exact wpN_bindm h fun a s₁ h₁ => wpN_bindm (wpN_holding h₁) fun b s₂ h₂ => wpN_at (wpN_operate (wpN_lift h₂))
theorem no_int : callSpecial? (.str x t) "__int__" = pure none := by
  unfold callSpecial?
  rw [show specialOf (.str x t) "__int__" = pure none from KIN.str_int]
  rfl
end
section
variable {prog : Program} {w : World} {A : Around} {s : Shared} {E : Value → Shared → Prop} {x : PySem.Str} {t : Tok}
theorem msg_len (y : PySem.Str) : (PySem.Str.ofString (toString "invalid literal for int() with base " ++ toString 10 ++ toString ": ") ++ (⟨y.cps.extract 0 200⟩ : PySem.Str)).length ≤ sizeLine := by
  rw [PySem.sizeLine_eq, PySem.Str.length_append]
  have h1 : (PySem.Str.ofString (toString "invalid literal for int() with base " ++ toString 10 ++ toString ": ")).length ≤ 100 := by decide +kernel
  have h2 : (⟨y.cps.extract 0 200⟩ : PySem.Str).length ≤ 200 := by
    show (y.cps.extract 0 200).size ≤ 200
    rw [Array.size_extract]
    omega
  omega
/-- the refusal of a text that is no number -/
theorem text_bad {Q : Value → Shared → Prop} (hn : PySem.intText? x = none) (hl : x.length ≤ 100) (hz : (reprText x).length ≤ sizeLine) (hh : A.handled = none)
    (h : ∀ h' tk e vs, Heap.MadeExc s.heap h' e "ValueError" vs → E (.ref e) { s with heap := h', toks := tk }) :
    wpN (model prog w) A ((int_private% "intFromText") (.str x t) (numTextOf x) 10) Q E s := by
  have hs : (numSeenOf x).length ≤ 640 := Nat.le_trans (seen_length x) (by omega)
  k_delta "intFromText"
  refine if_posN hs ?_
  refine wpN_then (wpAny_pure ?_)
  dsimp only
  rcases read0 x hs with ⟨m, h1, _⟩ | ⟨_, h2 | ⟨i, h2, h3⟩⟩
  · rw [hn] at h1
    cases h1
  · have h2' : (int_private% "readNumeral") 0 10 ((numTextOf x).takeWhile fun x => x != 0) = _ := h2
    rw [h2']
    dsimp only
    refine wpN_then (wpAny_of_eq (a := none) rfl ?_)
    refine if_noN rfl ?_
    refine wpN_then (wpAny_rule ?_)
    refine wpN_then (wpAny_of_eq (a := none) rfl ?_)
    dsimp only
    refine wpN_then (wpAny_pyRepr_str ?_ hz)
    refine wpN_then (wpAny_mkStr ?_ (msg_len _))
    refine wpN_then (wpAny_newExc_plain plainExc_ValueError fun h' e hx => ?_)
    refine wpN_bind (wpN_mark ?_)
    exact wpN_lift (wpAny_raiseNew_none hh (h _ _ _ _ hx))
  · have h2' : (int_private% "readNumeral") 0 10 ((numTextOf x).takeWhile fun x => x != 0) = _ := h2
    rw [h2']
    dsimp only
    refine if_noN (Bool.not_eq_true _ ▸ h3) ?_
    refine wpN_then (wpAny_rule ?_)
    refine wpN_then (wpAny_of_eq (a := none) rfl ?_)
    dsimp only
    refine wpN_then (wpAny_pyRepr_str ?_ hz)
    refine wpN_then (wpAny_mkStr ?_ (msg_len _))
    refine wpN_then (wpAny_newExc_plain plainExc_ValueError fun h' e hx => ?_)
    refine wpN_bind (wpN_mark ?_)
    exact wpN_lift (wpAny_raiseNew_none hh (h _ _ _ _ hx))
theorem object_bad {Q : Value → Shared → Prop} (hn : PySem.intText? x = none) (hl : x.length ≤ 100) (hz : (reprText x).length ≤ sizeLine) (hh : A.handled = none)
    (h : ∀ h' tk e vs, Heap.MadeExc s.heap h' e "ValueError" vs → E (.ref e) { s with heap := h', toks := tk }) :
    wpN (model prog w) A ((int_private% "intFromObject") (.str x t)) Q E s := by
  k_delta "intFromObject"
  refine wpN_then (wpAny_of_eq no_int ?_)
  dsimp only
  refine wpN_then (wpAny_of_eq (show specialOf (.str x t) "__index__" = pure none from KIN.str_idx) ?_)
  refine if_noN rfl ?_
  refine wpN_then (wpAny_of_eq (show specialOf (.str x t) "__trunc__" = pure none from KIN.str_trunc) ?_)
  dsimp only
  refine wpN_then (wpAny_of_eq (a := some (numTextOf x)) rfl ?_)
  dsimp only
  exact text_bad hn hl hz hh h
theorem new_bad {P : PySem.Fin → Shared → Prop} (hn : PySem.intText? x = none) (hl : x.length ≤ 100) (hz : (reprText x).length ≤ sizeLine) (hh : A.handled = none)
    (h : ∀ h' tk e vs, Heap.MadeExc s.heap h' e "ValueError" vs → E (.ref e) { s with heap := h', toks := tk }) :
    wpN (model prog w) A (Builtin.«int.__new__» ⟨[.type "int", .str x t], []⟩) P E s := by
  unfold Builtin.«int.__new__»
  refine wpN_then (wpAny_of_eq (a := true) rfl ?_)
  refine if_noN rfl ?_
  refine wpN_then (wpAny_of_eq F.conv_sub_int ?_)
  refine if_noN rfl ?_
  refine wpN_then (wpAny_of_eq F.madeHere_int ?_)
  refine if_noN rfl ?_
  refine if_negN (by show ¬ (1 + 0 > 2); decide) ?_
  refine wpN_then (wpAny_pure ?_)
  refine wpN_bind (object_bad hn hl hz hh h)
/-- int of a text that is no number -/
theorem int_bad {Q : Value → Shared → Prop} (hn : PySem.intText? x = none) (hl : x.length ≤ 100) (hz : (reprText x).length ≤ sizeLine) (hh : A.handled = none)
    (h : ∀ h' tk e vs, Heap.MadeExc s.heap h' e "ValueError" vs → E (.ref e) { s with heap := h', toks := tk }) :
    wpN (model prog w) A (call (.type "int") [.str x t]) Q E s := by
  refine wpN_call (codeN_of_tree rfl ?_)
  show wpN _ _ (callAny (.type "int") _) _ _ _
  refine wpN_pure ⟨Code.quiet_builtin _ (by decide +kernel), codeN_builtin rfl F.entry_type_call ?_⟩
  rw [Around.under_plain (weight_type_call_type _ _ []) (units_type_call_type _ _ [])]
  unfold Builtin.«type.__call__»
  refine if_noN F.called_int.notType ?_
  refine if_noN F.called_int.canCreate ?_
  refine wpN_then (wpAny_of_eq (F.typeCall_int_1 _) ?_)
  refine wpN_then (wpAny_of_eq F.mro_int ?_)
  refine if_noN rfl ?_
  refine wpN_then (wpAny_of_eq F.called_int.made ?_)
  refine wpN_then (wpAny_pure ?_)
  refine wpN_bind (wpN_holding (wpN_call (codeN_of_tree rfl ?_)))
  show wpN _ A.in1.in1 (do checkBuiltinCall "int.__new__" _; again (.builtin "int.__new__" _)) _ _ s
  refine wpN_then (wpAny_of_eq (F.newCall_int_1 _) ?_)
  refine wpN_pure ⟨plainId_quiet F.called_int.plain _, codeN_builtin rfl F.entry_int_new ?_⟩
  rw [Around.under_plainId F.called_int.plain _]
  exact new_bad hn hl hz hh h
end
end Mine
end
/-! NilItem -/
section
open PySem PySem.W PyProof.Rows PySem.Calls PyProof.V PySem.Spec
namespace Mine
section
variable {prog : Program} {w : World} {A : Around} {s : Shared} {E : Value → Shared → Prop} {t u : Tok}
theorem str_index : typeLookup (.type "int") "__index__" = pure (some (.builtin "int.__index__")) := by rw [typeLookup_type, builtinLookup_eq_fast]; kernel_rfl
theorem get_nil {Q : Value → Shared → Prop} (hh : A.handled = none) (h : ∀ h' tk e vs, Heap.MadeExc s.heap h' e "IndexError" vs → E (.ref e) { s with heap := h', toks := tk }) :
    wpAny (model prog w) A (getItem (.str (PySem.Str.ofString "") t) (.int (-1) u)) Q E s := by
  unfold getItem
  refine wpAny_holding (wpAny_bind ?_)
  refine wpAny_of_eq (a := Value.int (-1) u) (by rfl) ?_
  refine wpAny_bind (m := callSpecial? (.str (PySem.Str.ofString "") t) (Str.ofString "__getitem__") [.int (-1) u]) (wpAny_callSpecial?_slot (name := Str.ofString "__getitem__") (typeIs_str s _ t) F.slot_str_getitem
    (wpAny_call_entry F.slot_str_getitem (typeIs_str s _ t) F.entry_str_getitem ?_ (F.args_str_getitem_2 _ _)))
  unfold Builtin.«str.__getitem__»
  refine wpAny_bind (wpAny_of_eq (a := (Value.str (PySem.Str.ofString "") t, PySem.Str.ofString "", [Value.int (-1) u])) (by rfl) ?_)
  dsimp only
  refine wpAny_bind (wpAny_pure ?_)
  refine bm_if_false (by decide) ?_
  refine wpAny_bind (wpAny_of_eq (show specialOf (.int (-1) u) "__index__" = pure (some (.builtin "int.__index__")) from str_index) ?_)
  refine bm_if_false rfl ?_
  refine wpAny_bind (wpAny_pure ?_)
  refine bm_if_false (by decide) ?_
  rw [show ((seqIndex? (-1) (Str.ofString "").length).bind fun x => (Str.ofString "").cps[x]?) = none by decide +kernel]
  dsimp only
  refine wpAny_bind (wpAny_rule ?_)
  unfold raiseErrorWords
  refine wpAny_bind (wpAny_mkText (wpAny_bind (wpAny_newExc_plain plainExc_IndexError fun h' e hx => ?_)))
  exact wpAny_raiseNew_none hh (h _ _ _ _ hx)
theorem sub_nil {va x : Expr} {p : Pos} {Q : Value → Shared → Prop} (hh : A.handled = none) (h : ∀ h' tk e vs, Heap.MadeExc s.heap h' e "IndexError" vs → E (.ref e) { s with heap := h', toks := tk }) :
    wpAny (model prog w) A (subscriptTail va (.UnaryOp .USub x p) (.str (PySem.Str.ofString "") t) (.int (-1) u)) Q E s := by
  unfold subscriptTail
  refine wpAny_bind ?_
  have L1 : getitemInPython (.str (PySem.Str.ofString "") t) = pure false := by
    unfold getitemInPython
    rw [show specialOf (.str (PySem.Str.ofString "") t) "__getitem__" = pure (some (.builtin "str.__getitem__")) from F.slot_str_getitem.lookup]
    rfl
  refine wpAny_of_eq L1 ?_
  refine wpAny_bind (wpAny_operate' (get_nil hh h))
end
end Mine
end
/-! NComp -/
section
open PySem PySem.W PyProof.Rows PySem.Calls PyProof.V PySem.Spec
namespace Mine
section
variable {M : Model} {A : Around} {s : Shared} {E : Value → Shared → Prop} {env : Env}
/-- what is asked behind a comprehension's loop -/
def CPost (M : Model) (A : Around) (E : Value → Shared → Prop) (Q : Value → Shared → Prop) (acc : Value) (C : Addr) (fr : Option Addr) (r : Result) (s' : Shared) : Prop := match r with
  | .ok _ => ∃ m, s'.heap.Ns C m ∧ ∀ h', Heap.SameBut C s'.heap h' → Q acc { s' with heap := h' }
  | .error x => ∃ m, s'.heap.Ns C m ∧ ∀ h', Heap.SameBut C s'.heap h' → ∀ cenv : Env, cenv.locals = C → cenv.frame = fr → wpAny M A (passOn "comprehension.variables-let-go" x cenv : Sem Value) (fun _ _ => False) E { s' with heap := h' }
theorem N_comprehension {e : Expr} {scope : Scope} {pos : Pos} {newAcc first : Sem Value} {g : Comprehension} {gs : List Comprehension} {cl : List (PySem.Str × Addr)} {Q : Value → Shared → Prop}
    (hcl : clausesOf e = g :: gs) (hs : ∀ x, foldedSetIterable g.iter env x = pure x) (hclos : closureFor scope env = pure cl)
    (hkind : scope.kind = .function) (hnames : ∀ x ∈ scope.names, x.2 = .local → scope.names.lookup x.1 = some .local)
    (h : wpN M A first (fun x s₁ => wpAny M A (pyIter x) (fun it s₂ => wpAny M A newAcc (fun acc s₃ =>
      wpAny M A (newFunctionEnv scope env.globals cl [] env.qual none .none (some env)) (fun cenv s₄ => cenv.frame = env.frame ∧
        codeN M A (.compStart e 0 it acc { cenv with scope := relabel scope env }) (CPost M A E Q acc cenv.locals env.frame) s₄) E s₃) E s₂) E s₁) E s) :
    wpN M A (comprehension e scope env pos newAcc false first none) Q E s := by
  unfold comprehension
  rw [hclos, hcl]
  refine wpN_bindm h fun x s₁ h₁ => wpN_at (wpN_then (wpAny_of_eq (hs x) (wpN_then (wpAny_holding (wpAny_mono h₁ (fun it s₂ h₂ => ?_) fun _ _ e => e)))))
  refine wpN_then (wpAny_mono h₂ (fun acc s₃ h₃ => ?_) fun _ _ e => e)
  refine wpN_then (wpAny_pure ?_)
  refine wpN_then (wpAny_mono h₃ (fun cenv s₄ h₄ => ?_) fun _ _ e => e)
  obtain ⟨hfr, h₄⟩ := h₄
  dsimp only
  have hv : ∀ x ∈ (scope.names.filter fun x => (x.2 == .local || x.2 == .cell) && x.1 != (".0" : PySem.Str)).reverse, x.2 = .local →
      Env.kindOf { cenv with scope := relabel scope env } x.1 = some .local := fun x hx hl => lookup_relabel_local (hnames x (List.mem_filter.mp (List.mem_reverse.mp hx)).1 hl)
  refine wpN_holding (wpN_bindm (P := fun a s' => CPost M A E Q acc cenv.locals env.frame a s') (wpN_attempt (wpN_holding (wpN_run (codeN_mono h₄ fun r s' hr => ?_)))) ?_)
  · cases r <;> exact hr
  · intro a s' hr
    cases a with
    | ok f =>
      obtain ⟨m, hn, hr⟩ := hr
      exact wpN_then (wpAny_holding (wpAny_comp_letGo (cenv := { cenv with scope := relabel scope env }) hkind _ s' m hv hn fun h' m' _ hs' => wpN_pure (hr h' hs')))
    | error x =>
      obtain ⟨m, hn, hr⟩ := hr
      exact wpN_then (wpAny_holding (wpAny_comp_letGo (cenv := { cenv with scope := relabel scope env }) hkind _ s' m hv hn fun h' m' _ hs' => wpN_lift (wpAny_mono (hr h' hs' _ rfl hfr) (fun _ _ f => f.elim) fun _ _ y => y)))
end
section
variable {prog : Program} {w : World} {A : Around} {s : Shared} {E : Value → Shared → Prop} {env cenv : Env}
/-- a comprehension's loop whose element may raise: J i stands ahead of turn i, n - i turns are left at most -/
theorem N_compLoop {elt iter : Expr} {x : PySem.Str} {px pos : Pos} {scope : Scope} {it acc : Value} {R : Result → Shared → Prop} (J : Nat → Shared → Prop) (n : Nat)
    (turn : ∀ i s, i ≤ n → J i s → wpAny (model prog w) A (pyNext it) (fun r s₁ => match r with
      | none => R (.ok .next) s₁
      | some v => wpAny (model prog w) A (assign (.Name x px) cenv v) (fun _ s₂ => wpN (model prog w) A (eval elt cenv) (fun y s₃ => i < n ∧ wpAny (model prog w) A (call (.builtin "list.append") [acc, y]) (fun _ s₄ => J (i + 1) s₄) (fun _ _ => False) s₃)
          (notedBy (model prog w) A cenv fun e s' => R (.error e) s') s₂) (fun _ _ => False) s₁) (fun _ _ => False) s) :
    ∀ k i s, i + k = n → J i s → codeN (model prog w) A (.compLoop (.ListComp elt [⟨.Name x px, iter, [], 0⟩] scope pos) 0 it acc cenv) R s := by
  intro k
  induction k with
  | zero =>
    intro i s hi hJ
    refine codeN_of_tree rfl ?_
    show wpN _ A ((compTurn (.ListComp elt [⟨.Name x px, iter, [], 0⟩] scope pos) 0 it acc cenv).onRaise (fun x => do noteFrame x cenv; theTreesLotGoes x)) _ _ s
    refine wpN_onRaise (wpN_mono (E := notedBy (model prog w) A cenv fun e s' => R (.error e) s') (Q := fun fin s' => match fin with | .done f => R (.ok f) s' | .again c' => False) ?_ (fun a s h => ?_) fun e s h => wpN_lift (wpAny_bind (wpAny_mono h (fun _ _ e => wpAny_theTreesLotGoes e) fun _ _ e => e)))
    · rw [compTurn_list1]
      refine wpN_at (wpN_then (wpAny_mono (turn i s (by omega) hJ) (fun r s₁ h₁ => ?_) fun _ _ e => e.elim))
      cases r with
      | none => exact wpN_pure h₁
      | some v =>
        refine wpN_then (wpAny_of_eq (show letOwnedTupleGo (.Name x px) it v = pure () from rfl) ?_)
        refine wpN_then (wpAny_mono h₁ (fun _ s₂ h₂ => ?_) fun _ _ e => e.elim)
        exact wpN_bind (wpN_bind (wpN_mono h₂ (fun y s₃ h₃ => absurd h₃.1 (by rw [← hi, Nat.add_zero]; exact Nat.lt_irrefl _)) fun _ _ e => e))
    · cases a with
      | done f => exact h
      | again c => exact h.elim
  | succ k ih =>
    intro i s hi hJ
    refine codeN_of_tree rfl ?_
    show wpN _ A ((compTurn (.ListComp elt [⟨.Name x px, iter, [], 0⟩] scope pos) 0 it acc cenv).onRaise (fun x => do noteFrame x cenv; theTreesLotGoes x)) _ _ s
    refine wpN_onRaise (wpN_mono (E := notedBy (model prog w) A cenv fun e s' => R (.error e) s') (Q := fun fin s' => match fin with | .done f => R (.ok f) s' | .again c' => c'.quiet = true ∧ codeN (model prog w) A c' R s') ?_ (fun a s h => ?_) fun e s h => wpN_lift (wpAny_bind (wpAny_mono h (fun _ _ e => wpAny_theTreesLotGoes e) fun _ _ e => e)))
    · rw [compTurn_list1]
      refine wpN_at (wpN_then (wpAny_mono (turn i s (by omega) hJ) (fun r s₁ h₁ => ?_) fun _ _ e => e.elim))
      cases r with
      | none => exact wpN_pure h₁
      | some v =>
        refine wpN_then (wpAny_of_eq (show letOwnedTupleGo (.Name x px) it v = pure () from rfl) ?_)
        refine wpN_then (wpAny_mono h₁ (fun _ s₂ h₂ => ?_) fun _ _ e => e.elim)
        refine wpN_bind (wpN_bind (wpN_mono h₂ (fun y s₃ h₃ => wpN_then (wpAny_mono h₃.2 (fun _ s₄ h₄ => ?_) fun _ _ e => e.elim)) fun _ _ e => e))
        exact wpN_pure (wpN_pure ⟨rfl, ih (i + 1) s₄ (by omega) h₄⟩)
    · cases a with
      | done f => exact h
      | again c => exact h
end
end Mine
end
/-! NRs -/
section
open PySem PySem.W PyProof.Rows PySem.Calls PyProof.V PySem.Spec
namespace Mine
/-- an exception that has been noted by the frame L and is still on its way there -/
def HeldK (base : Heap) (l : List Env) (e : Addr) (cls : Value) (t : Addr) (vs : List Value) (L : Addr) (news : List (Addr × Obj)) (h : Heap) : Prop :=
  (∃ B, base.StaysIn B ∧ (∀ q ∈ news, B.get? q.1 = some q.2 ∧ base.get? q.1 = none) ∧ Heap.HeldW B l e cls (.ref t) L h ∧ B.get? t = none) ∧ h.TupAt t vs
theorem frames_but {h h' B : Heap} {C : Addr} (hs : Heap.SameBut C h h') {oC : Obj} (hC : B.get? C = some oC) : ∀ {l : List Env}, h.FunFrames B l → h'.FunFrames B l
  | [], _ => trivial
  | _ :: _, ⟨hk, ⟨L, o, hf, hn, ho, hd⟩, hr⟩ => ⟨hk, ⟨L, o, hf, hn, hs.extBut L o (fun q => by rw [q, hC] at hn; cases hn) ho, hd⟩, frames_but hs hC hr⟩
theorem heldK_but {base h h' : Heap} {l : List Env} {e t L C : Addr} {oC : Obj} {m : PySem.Str → Option Value} {cls : Value} {vs : List Value} {news n' : List (Addr × Obj)}
    (R : HeldK base l e cls t vs L news h) (hC : (C, oC) ∈ news) (hns : h.Ns C m) (hs : Heap.SameBut C h h') (hn : ∀ p ∈ n', p ∈ news ∧ p.1 ≠ C) : HeldK base l e cls t vs L n' h' := by
  obtain ⟨⟨B, b1, b2, ⟨f1, f2, f3, oe, ws, T, oT, ts, he, hc, hd, h1, hnT, hTe, hT, hdT, h3⟩, b4⟩, ot, n, ht, htc, htd⟩ := R
  have hBC : B.get? C = some oC := (b2 _ hC).1
  obtain ⟨o', es, ep, hoC, hdC, _⟩ := hns
  have hneD : ∀ b o, h.get? b = some o → (∀ es ep, o.data ≠ .dict es ep) → b ≠ C := fun b o hb hn q => by
    rw [q, hoC] at hb; cases hb; exact hn _ _ hdC
  have st : B.get? C = some oC := hBC
  have hB' : base.StaysIn (hideAll B [C]) := fun b o q => hideAll_get _ (b1 b o q) fun hm => by
    rw [List.mem_singleton.mp hm, (b2 _ hC).2] at q; cases q
  have no : ∀ b, B.get? b = none → (hideAll B [C]).get? b = none := fun b hb => by
    cases q : (hideAll B [C]).get? b with
    | none => rfl
    | some o => rw [of_hideAll _ q] at hb; cases hb
  refine ⟨⟨hideAll B [C], hB', fun q hq => ⟨hideAll_get _ (b2 q (hn q hq).1).1 fun hm => (hn q hq).2 (List.mem_singleton.mp hm), (b2 q (hn q hq).1).2⟩, ⟨?_, no e f2, ?_, oe, ws, T, oT, ts, ?_, hc, hd, h1, no T hnT, hTe, ?_, hdT, h3⟩, no t b4⟩, ot, n, ?_, htc, htd⟩
  · intro b o q
    have hb : b ≠ C := fun z => by rw [z, hideAll_none [C] (.head _)] at q; cases q
    exact hs.extBut b o hb (f1 b o (of_hideAll _ q))
  · exact funFrames_base (fun b o q => of_hideAll _ q) (frames_but hs hBC f3)
  · exact hs.extBut _ _ (hneD _ _ he fun es ep q => by rw [hd] at q; cases q) he
  · exact hs.extBut _ _ (hneD _ _ hT fun es ep q => by rw [hdT] at q; cases q) hT
  · exact hs.extBut _ _ (hneD _ _ ht fun es ep q => by rw [htd] at q; cases q) ht
section
variable {M : Model} {A : Around} {E : Value → Shared → Prop} {s' : Shared} {base g h : Heap} {outer : List Env} {env : Env} {L e t : Addr} {cls : Value} {vs : List Value} {Q : Unit → Shared → Prop} {news : List (Addr × Obj)}
theorem noteK (hfr : A.frames = some (env :: outer)) (hf : env.frame = some L) (R : RaisedK base (env :: outer) e cls t vs news s'.heap)
    (hQ : ∀ h', HeldK base (env :: outer) e cls t vs L news h' → s'.heap.UpToSlots h' → Q () { s' with heap := h' }) : wpAny M A (noteFrame (.ref e) env) Q E s' := by
  obtain ⟨⟨B, hB, hl, hfl, hnew⟩, htup⟩ := R
  exact wpAny_looks_onW hfr hf hfl fun h' x1 x2 => hQ h' ⟨⟨B, hB, hl, x1, hnew⟩, htup.of_slots x2⟩ x2
theorem passK {α : Type} {what : String} {cenv : Env} {l : List Env} {Qf : α → Shared → Prop} (hf : cenv.frame = some L) (R : HeldK base l e cls t vs L news s'.heap)
    (hE : ∀ h', HeldK base l e cls t vs L news h' → s'.heap.UpToSlots h' → E (.ref e) { s' with heap := h' }) : wpAny M A (PySem.passOn what (.ref e) cenv : Sem α) Qf E s' := by
  obtain ⟨⟨B, hB, hl, ⟨f1, f2, f3, oe, ws, T, oT, ts, he, hc, hd, h1, hnT, hTe, hT, hdT, h3⟩, hnew⟩, htup⟩ := R
  unfold PySem.passOn setFlight
  refine wpAny_bind (wpAny_field he hd h1 ?_)
  rw [if_neg (show ¬ ((Value.ref T == Value.none) = true) from by simp)]
  refine wpAny_bind (wpAny_bind (wpAny_field he hd h1 ?_))
  rw [if_pos (show (Value.ref T != Value.none) = true from by simp)]
  have other : ∀ b, b ≠ T → (s'.heap.update T (Obj.mapFields (·.setIfInBounds 3 (cenv.frame.elim Value.none fun f => rawInt f)))).get? b = s'.heap.get? b := fun b hb => Heap.get?_update_other _ _ (Ne.symm hb)
  have noRecord : ∀ b o, s'.heap.get? b = some o → (∀ vs, o.data ≠ .fields vs) → b ≠ T := fun b o hb hnf q => by
    rw [q, hT] at hb; injection hb with hb; subst hb; exact hnf ts hdT
  have up : s'.heap.UpToSlots (s'.heap.update T (Obj.mapFields (·.setIfInBounds 3 (cenv.frame.elim Value.none fun f => rawInt f)))) := fun b o hb hn => ⟨o.slots, (other b (noRecord b o hb hn)).trans hb⟩
  have hsz3 : 3 < ts.size := (Array.getElem?_eq_some_iff.mp h3).1
  refine wpAny_setField hT hdT hsz3 (wpAny_throw ?_)
  refine hE _ ⟨⟨B, hB, hl, ⟨fun b o hbo => (other b fun q => by rw [q, hnT] at hbo; cases hbo).trans (f1 b o hbo), f2, f3.of_keeps fun b o hb hn => ⟨o, (other b (noRecord b o hb hn)).trans hb, rfl⟩, ?_⟩, hnew⟩, htup.of_slots up⟩ up
  refine ⟨oe, ws, T, _, _, (other e (Ne.symm hTe)).trans he, hc, hd, h1, hnT, hTe, Heap.get?_update_self _ hT (Obj.isFreed_of_fields (Obj.data_mapFields hdT _)), Obj.data_mapFields hdT _, ?_⟩
  rw [hf]
  simp [hsz3]
theorem leaveHeldK (hf : env.frame = some L) (R : HeldK base (env :: outer) e cls t vs L news s'.heap)
    (hQ : ∀ h', RaisedK base outer e cls t vs news h' → s'.heap.UpToSlots h' → Q () { s' with heap := h' }) : wpAny M A (leaving env (.ref e)) Q E s' := by
  obtain ⟨⟨B, hB, hl, hh, hnew⟩, htup⟩ := R
  unfold leaving
  refine wpAny_bind (wpAny_noteFrame_againW hf hh.2.2.2 ?_)
  refine wpAny_landsW hh fun h' hfl up => ?_
  obtain ⟨k1, k2, ⟨_, _, k3⟩, k4⟩ := hfl
  exact hQ h' ⟨⟨B, hB, hl, ⟨k1, k2, k3, k4⟩, hnew⟩, htup.of_slots up⟩ up
theorem noteAgainK {l : List Env} (hf : env.frame = some L) (R : HeldK base l e cls t vs L news s'.heap) (h : Q () s') : wpAny M A (noteFrame (.ref e) env) Q E s' := by
  obtain ⟨⟨B, hB, hl, hh, hnew⟩, htup⟩ := R
  exact wpAny_noteFrame_againW hf hh.2.2.2 h
end
end Mine
end
/-! NLc -/
section
open PySem PySem.W PyProof.Rows PySem.Calls PyProof.V PySem.Spec
namespace Mine
section
variable {prog : Program} {w : World} {A : Around} {E : Value → Shared → Prop} {s : Shared} {h₀ base : Heap} {L : Addr} {m : PySem.Str → Option Value} {env : Env} {outer : List Env} {Q : Value → Shared → Prop}
theorem codeN_compStart {elt target iter ifs rest scope pos it acc} {env : Env} {R : Result → Shared → Prop}
    (h0 : codeN (model prog w) A (.compLoop (.ListComp elt (⟨target, iter, ifs, 0⟩ :: rest) scope pos) 0 it acc env) R s)
    (h : wpAny (model prog w) A (pyIter it) (fun it' s' => codeN (model prog w) A (.compLoop (.ListComp elt (⟨target, iter, ifs, 0⟩ :: rest) scope pos) 0 it' acc env) R s') (fun _ _ => False) s) :
    codeN (model prog w) A (.compStart (.ListComp elt (⟨target, iter, ifs, 0⟩ :: rest) scope pos) 0 it acc env) R s := by
  refine codeN_of_tree rfl ?_
  show wpN _ _ ((compStart (.ListComp elt (⟨target, iter, ifs, 0⟩ :: rest) scope pos) 0 it acc env).onRaise (fun x => do noteFrame x env; standAt theWindowsPlace)) _ _ s
  refine wpN_onRaise (wpN_mono (E := fun _ _ => False) ?_ (fun _ _ q => q) fun _ _ e => e.elim)
  unfold compStart
  show wpN _ _ (ask >>= _) _ _ s
  refine wpN_then (wpAny_askSetting ?_)
  split
  · exact wpN_lift (wpAny_pure (And.intro rfl h0))
  · first
      | exact wpN_then (wpAny_rule (wpN_at (wpN_then (wpAny_mono h (fun it' s' h' => wpN_lift (wpAny_pure (And.intro rfl h'))) fun _ _ x => x))))
      | (refine wpN_then (wpAny_rule ?_); show wpN _ _ (standAt iter.pos >>= _) _ _ s; exact wpN_at (wpN_then (wpAny_mono h (fun it' s' h' => wpN_lift (wpAny_pure (And.intro rfl h'))) fun _ _ x => x)))
theorem hide_at' {P : Shared → Prop} {s : Shared} (h : ∀ P' : Shared → Prop, P' = P → P' s) : P s := h P rfl
inductive GoodEnd (h₀ : Heap) (L : Addr) (m : PySem.Str → Option Value) (led : List (Addr × Obj)) (s₁ s₂ : Shared) : Prop
  | mk (h' : Heap) (tk' : Nat) (e0 : s₂ = { s₁ with heap := h', toks := tk' }) (e1 : Fr h₀ L h' m) (e2 : News h₀ L h' led) : GoodEnd h₀ L m led s₁ s₂
inductive BadEnd (h₀ base : Heap) (L : Addr) (m : PySem.Str → Option Value) (envs : List Env) (led : List (Addr × Obj)) (PP : Value → Prop) (s₁ : Shared) (e : Value) (s₂ : Shared) : Prop
  | mk (x' : Addr) (h' : Heap) (tk' : Nat) (g' : Heap) (cls : Value) (tt : Addr) (vs : List Value) (e0 : e = .ref x') (e1 : s₂ = { s₁ with heap := h', toks := tk' }) (e2 : Fr h₀ L g' m) (e3 : RaisedK base envs x' cls tt vs led h') (e4 : g'.UpToSlots h') (e5 : PP cls) : BadEnd h₀ base L m envs led PP s₁ e s₂
/-- what stands behind the source of a list comprehension whose turn j raises -/
inductive BadSrc (prog : Program) (w : World) (A : Around) (h₀ base : Heap) (L : Addr) (m : PySem.Str → Option Value) (env : Env) (outer : List Env) (elt : Expr) (x : PySem.Str) (scope : Scope) (cl : List (PySem.Str × Addr)) (E : Value → Shared → Prop) (xv : Value) (s₁ : Shared) : Prop
  | mk (D₀ : Addr) (its : Array Value) (k : Nat) (news : List (Addr × Obj)) (j : Nat) (PP : Value → Prop) (e0 : xv = .ref D₀) (e1 : Fr h₀ L s₁.heap m) (e2 : News h₀ L s₁.heap news) (e3 : (D₀, ({ cls := .type "list", data := .seq its k } : Obj)) ∈ news) (e4 : its.size ≤ sizeLine) (e5 : j < its.size)
    (e6 : ∀ i v I oI C oC D m₂ ys h tk, i < j → its[i]? = some v → LCg.NsObj oC m₂ → m₂ x = some v → Fr h₀ L h m → News h₀ L h ((I, oI) :: (C, oC) :: (D, LCg.lst ys) :: news) → LCg.Off3 I C D news → ((@Ne Nat I C) ∧ (@Ne Nat I D) ∧ (@Ne Nat C D)) →
      wpN (model prog w) A (eval elt (compEnvC scope cl C env)) (fun _ s₂ => GoodEnd h₀ L m ((I, oI) :: (C, oC) :: (D, LCg.lst ys) :: news) s₁ s₂) (fun _ _ => False) { s₁ with heap := h, toks := tk })
    (e7 : ∀ v I oI C oC D m₂ ys h tk, its[j]? = some v → LCg.NsObj oC m₂ → m₂ x = some v → Fr h₀ L h m → News h₀ L h ((I, oI) :: (C, oC) :: (D, LCg.lst ys) :: news) → LCg.Off3 I C D news → ((@Ne Nat I C) ∧ (@Ne Nat I D) ∧ (@Ne Nat C D)) →
      wpN (model prog w) A (eval elt (compEnvC scope cl C env)) (fun _ _ => False) (BadEnd h₀ base L m (env :: outer) ((C, oC) :: news) PP s₁) { s₁ with heap := h, toks := tk })
    (e8 : ∀ x' cls tt vs h' tk', HeldK base (env :: outer) x' cls tt vs L news h' → h₀.UpToSlots h' → PP cls → E (.ref x') { s₁ with heap := h', toks := tk' }) : BadSrc prog w A h₀ base L m env outer elt x scope cl E xv s₁
/-- the comprehension's loop, `i` turns done -/
inductive CInv (h₀ : Heap) (L : Addr) (m : PySem.Str → Option Value) (s₁ : Shared) (I C D D₀ : Addr) (news : List (Addr × Obj)) (i : Nat) (s' : Shared) : Prop
  | mk (h' : Heap) (tk : Nat) (ys : List Value) (m' : PySem.Str → Option Value) (e0 : s' = { s₁ with heap := h', toks := tk }) (e1 : ys.length = i) (e2 : h'.IsListIter I D₀ i) (e3 : Fr h₀ L h' m) (e4 : h'.Ns C m') (e5 : News h₀ L h' ((D, LCg.lst ys) :: news)) : CInv h₀ L m s₁ I C D D₀ news i s'
theorem N_ListComp_bad {elt iter : Expr} {x : PySem.Str} {px : Pos} {scope : Scope} {cl : List (PySem.Str × Addr)} {pos : Pos}
    (hFz : Fr h₀ L s.heap m) (hh : A.handled = none) (hfr : A.frames = some (env :: outer)) (hf : env.frame = some L)
    (hclos : closureFor scope env = pure cl) (hcell : ∀ y ∈ scope.names, y.2 ≠ .cell) (hkind : scope.kind = .function)
    (hnames : ∀ y ∈ scope.names, y.2 = .local → scope.names.lookup y.1 = some .local) (hx : scope.names.lookup x = some .local)
    (h : wpAny (model prog w) A (eval iter env) (BadSrc prog w A h₀ base L m env outer elt x scope cl E) E s)
    (hs : ∀ x, foldedSetIterable iter env x = pure x := by intro _; rfl) :
    wpN (model prog w) A (eval (.ListComp elt [⟨.Name x px, iter, [], 0⟩] scope pos) env) Q E s := by
  rw [eval_ListComp]
  refine N_comprehension (cl := cl) rfl hs hclos hkind hnames (wpN_lift (wpAny_mono h (fun xv s₁ h₁ => ?_) fun _ _ e => e))
  refine hide_at' (P := wpAny _ _ _ _ _) fun P' hP => ?_
  obtain ⟨D₀, its, k, news, j, PP, rfl, F, N, hD, hsz, hj, good, bad, hE⟩ := h₁
  subst hP
  have hl : s₁.heap.IsList D₀ its := News.isList N hD
  have hlt : D₀ < s₁.heap.objs.size := by obtain ⟨_, e, _⟩ := hl; exact Heap.lt_size e
  refine wpAny_pyIter_list hl ?_
  have up : ∀ b o, s₁.heap.get? b = some o → (s₁.heap.push { cls := .type "list_iterator", data := .fields #[.ref D₀, .int 0 0] }).get? b = some o := fun b o e => Heap.get?_push_of_some _ e
  have W := Walks.list (prog := prog) (w := w) hh s₁.heap.objs.size D₀ (Nat.ne_of_lt hlt) its
  generalize hI : s₁.heap.objs.size = I at W
  have hI₀ : h₀.get? I = none := hI ▸ next_is_new F
  have hLI : L ≠ I := hI ▸ Nat.ne_of_lt F.ns.lt
  have hIlt : I < (s₁.heap.push { cls := .type "list_iterator", data := .fields #[.ref D₀, .int 0 0] }).objs.size := by rw [Heap.size_push, hI]; exact Nat.lt_succ_self _
  have F1 : Fr h₀ L (s₁.heap.push { cls := .type "list_iterator", data := .fields #[.ref D₀, .int 0 0] }) m := F.push _
  have N1 := N.grown up
  have hst : (s₁.heap.push { cls := .type "list_iterator", data := .fields #[.ref D₀, .int 0 0] }).IsListIter I D₀ 0 := ⟨_, hI ▸ Heap.get?_push_size _ rfl, rfl, rfl⟩
  have offI : ∀ p ∈ news, p.1 ≠ I := fun p hp q => absurd (Heap.lt_size (N p hp).1) (by rw [q, hI]; exact Nat.lt_irrefl _)
  generalize s₁.heap.push { cls := .type "list_iterator", data := .fields #[.ref D₀, .int 0 0] } = H1 at up hIlt F1 N1 hst
  refine wpAny_newObj_type (wpAny_newFunctionEnv hcell (by intro y hy; simp at hy) (fun h₁ hns₁ hsb₁ => ?_) hkind)
  refine ⟨rfl, ?_⟩
  dsimp only at hns₁ hsb₁ ⊢
  have hDx : (H1.push { cls := .type "list", dict := none, data := .seq ([] : List Value).toArray }).get? H1.objs.size = some (LCg.lst []) := Heap.get?_push_size _ rfl
  generalize hD' : H1.objs.size = D at hDx ⊢
  have up2 : ∀ b o, H1.get? b = some o → (H1.push { cls := .type "list", dict := none, data := .seq ([] : List Value).toArray }).get? b = some o := fun b o e => Heap.get?_push_of_some _ e
  have hC' : (H1.push { cls := .type "list", dict := none, data := .seq ([] : List Value).toArray }).objs.size = D + 1 := by rw [Heap.size_push, hD']
  generalize H1.push { cls := .type "list", dict := none, data := .seq ([] : List Value).toArray } = H2 at hns₁ hsb₁ hDx up2 hC' ⊢
  generalize hC : H2.objs.size = C at hns₁ hsb₁ ⊢
  have hCD : C = D + 1 := by rw [← hC, hC']
  have old : ∀ b o, H1.get? b = some o → b ≠ C ∧ b ≠ D ∧ h₁.get? b = some o := fun b o e => by
    have hb := Heap.lt_size e
    rw [hD'] at hb
    have z1 : b ≠ C := fun q => by rw [q, hCD] at hb; exact absurd hb (Nat.not_lt.mpr (Nat.le_succ _))
    exact ⟨z1, Nat.ne_of_lt hb, hsb₁.extBut b o z1 (Heap.get?_push_of_some _ (up2 b o e))⟩
  have hID : I ≠ D := hD' ▸ Nat.ne_of_lt hIlt
  have hIC : I ≠ C := fun q => by rw [q, hCD, hD'] at hIlt; exact absurd hIlt (Nat.not_lt.mpr (Nat.le_succ _))
  have hDC : D ≠ C := by rw [hCD]; exact Nat.ne_of_lt (Nat.lt_succ_self _)
  have hLlt : L < D := hD' ▸ F1.ns.lt
  have hLD : L ≠ D := Nat.ne_of_lt hLlt
  have hLC : L ≠ C := by rw [hCD]; exact Nat.ne_of_lt (Nat.lt_succ_of_lt hLlt)
  have fresh₀ : ∀ b, D ≤ b → h₀.get? b = none := fun b hb => by
    cases e : h₀.get? b with
    | none => rfl
    | some o => exact absurd (Heap.lt_size (F1.keep b o e)) (by rw [hD']; exact Nat.not_lt.mpr hb)
  have hD₀ : h₀.get? D = none := fresh₀ D (Nat.le_refl _)
  have hC₀ : h₀.get? C = none := fresh₀ C (by rw [hCD]; exact Nat.le_succ _)
  have off3 : LCg.Off3 I C D news := LCg.Off3.of fun p hp => ⟨offI p hp, (old _ _ (N1 p hp).1).1, (old _ _ (N1 p hp).1).2.1⟩
  have hacc : h₁.get? D = some (LCg.lst []) := hsb₁.extBut D _ hDC (Heap.get?_push_of_some _ hDx)
  have F2 : Fr h₀ L h₁ m := F1.keeps fun b o e => (old b o e).2.2
  have N2 : News h₀ L h₁ ((D, LCg.lst []) :: news) := fun p hp => by
    rcases List.mem_cons.mp hp with rfl | hp
    · exact ⟨hacc, Ne.symm hLD, hD₀⟩
    · exact ⟨(old _ _ (N1 p hp).1).2.2, (N1 p hp).2⟩
  have hst2 : h₁.IsListIter I D₀ 0 := by obtain ⟨o, e, r⟩ := hst; exact ⟨o, (old _ _ e).2.2, r⟩
  have loop : ∀ s₃ : Shared, s₃ = { s₁ with heap := h₁, toks := s₁.toks + ([] : List (PySem.Str × Value)).length } →
      codeN (model prog w) A (.compLoop (.ListComp elt [⟨.Name x px, iter, [], 0⟩] scope pos) 0 (.ref I) (.ref D) (compEnvC scope cl C env)) (CPost (model prog w) A E Q (.ref D) C env.frame) s₃ := by
    rintro s₃ rfl
    refine N_compLoop (CInv h₀ L m s₁ I C D D₀ news) j ?_ j 0 _ (Nat.zero_add _)
      ⟨h₁, _, [], _, rfl, rfl, hst2, F2, hns₁, N2⟩
    intro i s' hi hI0
    refine hide_at' (P := wpAny _ _ _ _ _) fun P' hP => ?_
    obtain ⟨h', tk, ys, m', rfl, hyl, hit, F', hn', N'⟩ := hI0
    subst hP
    have hlD : h'.IsList D₀ its := News.isList N' (.tail _ hD)
    refine W.item i _ _ _ (Nat.lt_of_le_of_lt hi hj) ⟨hit, hlD⟩ fun v h₂ tk₂ hv hst₂ hk₂ => ?_
    have F₂ : Fr h₀ L h₂ m := LCg.fr_but F' hk₂ hLI hI₀
    have N₂ : News h₀ L h₂ ((D, LCg.lst ys) :: news) := LCg.news_but N' hk₂ fun p hp => by
      rcases List.mem_cons.mp hp with rfl | hp
      · exact Ne.symm hID
      · exact offI p hp
    refine wpAny_assign_Name (wpAny_storeName_local (lookup_relabel_local hx) (hn'.at' fun o e => hk₂ _ o (by simpa using Ne.symm hIC) e) (fun h₃ hn₃ hs₃ => ?_) (by simp [compEnvC, relabel, hkind]))
    have F₃ : Fr h₀ L h₃ m := F₂.change hs₃ (Ne.symm hLC) hC₀
    obtain ⟨oI, heI⟩ : ∃ oI, h₃.get? I = some oI := by obtain ⟨o, e, _⟩ := hst₂.1; exact ⟨o, hs₃.extBut _ _ hIC e⟩
    obtain ⟨oC, heC, hoC⟩ := LCg.ns_obj hn₃
    have N₃ : News h₀ L h₃ ((I, oI) :: (C, oC) :: (D, LCg.lst ys) :: news) := fun p hp => by
      rcases List.mem_cons.mp hp with rfl | hp
      · exact ⟨heI, Ne.symm hLI, hI₀⟩
      · rcases List.mem_cons.mp hp with rfl | hp
        · exact ⟨heC, Ne.symm hLC, hC₀⟩
        · have z := N₂ p hp
          refine ⟨hs₃.extBut _ _ ?_ z.1, z.2⟩
          rcases List.mem_cons.mp hp with rfl | hp
          · exact hDC
          · exact (off3.mem p hp).2.1
    by_cases hij : i < j
    · refine wpN_mono (good i v I oI C oC D _ ys h₃ _ hij hv hoC (by simp) F₃ N₃ off3 ⟨hIC, hID, Ne.symm hDC⟩) (fun y s₄ h₄ => ?_) fun _ _ e => e.elim
      obtain ⟨h₄, tk₄, rfl, F₄, N₄⟩ := h₄
      refine ⟨hij, ?_⟩
      have zI := (N₄ (I, oI) (.head _)).1
      have zC := (N₄ (C, oC) (.tail _ (.head _))).1
      have zD := (N₄ (D, LCg.lst ys) (.tail _ (.tail _ (.head _)))).1
      refine append_at (hsz := by show ys.toArray.size ≤ sizeLine; rw [List.size_toArray, hyl]; exact Nat.le_trans hi (Nat.le_trans (Nat.le_of_lt hj) hsz)) zD fun h₅ hs₅ hD₅ => ?_
      refine ⟨h₅, tk₄, ys ++ [y], _, rfl, by rw [List.length_append, List.length_singleton, hyl], ?_, F₄.change hs₅ (Ne.symm hLD) hD₀, (hoC.ns zC).sameBut hs₅ (Ne.symm hDC), fun p hp => ?_⟩
      · obtain ⟨o, e, r⟩ := hst₂.1
        have e3 := hs₃.extBut _ _ hIC e
        rw [heI] at e3
        cases e3
        exact ⟨_, hs₅.extBut _ _ hID zI, r⟩
      · rcases List.mem_cons.mp hp with rfl | hp
        · exact ⟨hD₅.trans (congrArg some (LCg.lst_snoc ys y)), Ne.symm hLD, hD₀⟩
        · exact ⟨hs₅.extBut _ _ (off3.mem p hp).2.2 (N₄ p (.tail _ (.tail _ (.tail _ hp)))).1, (N₄ p (.tail _ (.tail _ (.tail _ hp)))).2⟩
    · obtain rfl : i = j := Nat.le_antisymm hi (Nat.not_lt.mp hij)
      refine wpN_mono (bad v I oI C oC D _ ys h₃ _ hv hoC (by simp) F₃ N₃ off3 ⟨hIC, hID, Ne.symm hDC⟩) (fun y s₄ h₄ => h₄.elim) fun e s₄ h₄ => ?_
      obtain ⟨x', h₄, tk₄, g', cls, tt, vs, rfl, rfl, Fg, R, U, hp⟩ := h₄
      show wpAny (model prog w) A (noteFrame (.ref x') (compEnvC scope cl C env)) _ _ _
      refine noteK (env := env) hfr hf R fun h₅ H5 U5 => ?_
      have hC5 : h₅.get? C = some oC := by
        obtain ⟨⟨B, b1, b2, ⟨f1, _⟩, _⟩, _⟩ := H5
        exact f1 _ _ (b2 _ (.head _)).1
      refine ⟨_, hoC.ns hC5, fun h₆ hs₆ cenv' _ hcf => ?_⟩
      have H6 := heldK_but (n' := news) H5 (.head _) (hoC.ns hC5) hs₆ fun p hp => ⟨.tail _ hp, (off3.mem p hp).2.1⟩
      refine passK (hcf.trans hf) H6 fun h₇ H7 U7 => ?_
      refine hE x' cls tt vs h₇ tk₄ H7 ?_ hp
      have U05 : h₀.UpToSlots h₅ := ((Heap.UpToSlots.of_keeps Fg.keep).trans U).trans U5
      refine Heap.UpToSlots.trans (fun b o e hnf => ?_) U7
      obtain ⟨sl, e5⟩ := U05 b o e hnf
      exact ⟨sl, hs₆.extBut _ _ (fun q => by rw [q, hC₀] at e; cases e) e5⟩
  exact codeN_compStart (loop _ rfl) (W.self 0 _ _ _ ⟨hst2, News.isList N2 (.tail _ hD)⟩ (loop _ rfl))
end
end Mine
end
/-! Txl -/
section
open PySem PySem.W PyProof.Rows PySem.Calls PySem.NumText
namespace Mine
/-- parts told with a stroke between two -/
def joinL : List (List Nat) → List Nat
  | [] => []
  | [x] => x
  | x :: y :: r => x ++ 47 :: joinL (y :: r)
theorem join_lit : ∀ items : List (List Nat), PySem.Str.join (lit [47]) (items.map lit) = lit (joinL items)
  | [] => by rfl
  | [x] => by rfl
  | x :: y :: r => by
    have ih := join_lit (y :: r)
    show lit x ++ lit [47] ++ PySem.Str.join (lit [47]) (lit y :: r.map lit) = _
    rw [List.map_cons] at ih
    rw [ih, lit_app, lit_app]
    simp [joinL]
theorem free_head : ∀ {x y p q : List Nat}, 47 ∉ x → 47 ∉ y → x ++ 47 :: p = y ++ 47 :: q → x = y ∧ p = q
  | [], [], _, _, _, _, h => by simpa using h
  | [], b :: y, _, _, _, hy, h => by
    have e : 47 = b := by simpa using (List.cons.inj h).1
    exact absurd (e ▸ List.mem_cons_self) hy
  | a :: x, [], _, _, hx, _, h => by
    have e : a = 47 := by simpa using (List.cons.inj h).1
    exact absurd (e ▸ List.mem_cons_self) hx
  | a :: x, b :: y, p, q, hx, hy, h => by
    have e := (List.cons.inj h)
    have ih := free_head (x := x) (y := y) (p := p) (q := q) (fun m => hx (List.mem_cons_of_mem _ m)) (fun m => hy (List.mem_cons_of_mem _ m)) e.2
    exact ⟨by rw [e.1, ih.1], ih.2⟩
theorem joinL_inj : ∀ {a b : List (List Nat)}, a ≠ [] → b ≠ [] → (∀ x ∈ a, 47 ∉ x) → (∀ x ∈ b, 47 ∉ x) → joinL a = joinL b → a = b
  | [x], [y], _, _, _, _, h => by simpa [joinL] using h
  | [x], y :: z :: s, _, _, ha, _, h => by
    have e : x = y ++ 47 :: joinL (z :: s) := h
    exact absurd (e ▸ List.mem_append_right _ List.mem_cons_self) (ha x List.mem_cons_self)
  | x :: w :: r, [y], _, _, _, hb, h => by
    have e : x ++ 47 :: joinL (w :: r) = y := h
    exact absurd (e ▸ List.mem_append_right _ List.mem_cons_self) (hb y List.mem_cons_self)
  | x :: w :: r, y :: z :: s, _, _, ha, hb, h => by
    have e := free_head (ha x List.mem_cons_self) (hb y List.mem_cons_self) (show x ++ 47 :: joinL (w :: r) = y ++ 47 :: joinL (z :: s) from h)
    have ih := joinL_inj (a := w :: r) (b := z :: s) (by simp) (by simp) (fun x hx => ha x (List.mem_cons_of_mem _ hx)) (fun x hx => hb x (List.mem_cons_of_mem _ hx)) e.2
    rw [e.1, ih]
  | [], _, h, _, _, _, _ => absurd rfl h
  | _ :: _, [], _, h, _, _, _ => absurd rfl h
theorem split_ne (x y : PySem.Str) : Txt.split x y ≠ [] := by
  unfold Txt.split
  split
  · simp
  · split
    · simp
    · rw [StrLaws.partsBetween_eq]
      obtain ⟨p, q, e⟩ := StrLaws.partsFrom_ne x y.length 0 (PySem.Builtin.Str.occurrences x y 0 x.length (x.length + 1))
      rw [e]
      simp
theorem split_lit {items : List (List Nat)} (h0 : items ≠ []) (hf : ∀ x ∈ items, 47 ∉ x) : Txt.split (lit (joinL items)) (lit [47]) = items.map lit := by
  have h1 := StrLaws.join_split (lit (joinL items)) (lit [47])
  have h2 : ∀ p ∈ Txt.split (lit (joinL items)) (lit [47]), 47 ∉ p.cps.toList := StrLaws.split_free (lit (joinL items)) 47
  have hn := split_ne (lit (joinL items)) (lit [47])
  generalize Txt.split (lit (joinL items)) (lit [47]) = ps at h1 h2 hn
  have e : ps = (ps.map fun p => p.cps.toList).map lit := by
    rw [List.map_map]
    conv => lhs; rw [← List.map_id ps]
    exact List.map_congr_left fun p _ => lit_of p
  rw [e, join_lit] at h1
  have h3 : joinL (ps.map fun p => p.cps.toList) = joinL items := by
    have := congrArg (fun x => x.cps.toList) h1
    simpa [lit] using this
  rw [e, joinL_inj (by simpa using hn) h0 (fun x hx => ?_) hf h3]
  obtain ⟨q, hq, rfl⟩ := List.mem_map.mp hx
  exact h2 q hq
theorem rstrip_one {l : List Nat} {k : Nat} (h : ∀ c r, l.reverse = c :: r → c ≠ 47) : Txt.rstripChars (lit (l ++ List.replicate k 47)) (lit [47]) = lit l := by
  have hg : ∀ c, (lit [47]).cps.contains c = (c == 47) := fun c => by rw [Bool.eq_iff_iff]; simp [lit]
  have e1 : ((lit (l ++ List.replicate k 47)).cps.toList.reverse.takeWhile (lit [47]).cps.contains).length = k := by
    rw [lit_cps, List.reverse_append, List.reverse_replicate]
    have key : ∀ k, ((List.replicate k 47 ++ l.reverse).takeWhile (lit [47]).cps.contains).length = k := by
      intro k
      induction k with
      | zero =>
        rw [List.replicate_zero, List.nil_append]
        cases e : l.reverse with
        | nil => rfl
        | cons c r =>
          have hc := h c r e
          rw [List.takeWhile_cons, hg, if_neg (by simpa using hc)]
          rfl
      | succ k ih =>
        rw [List.replicate_succ, List.cons_append, List.takeWhile_cons, hg, if_pos (by decide), List.length_cons, ih]
    exact key k
  have e2 : stripHi (lit [47]).cps.contains true (lit (l ++ List.replicate k 47)) 0 = l.length := by
    unfold stripHi
    rw [if_pos rfl, List.drop_zero, e1, lit_len, List.length_append, List.length_replicate]
    omega
  have e3 : stripLo (lit [47]).cps.contains false (lit (l ++ List.replicate k 47)) = 0 := rfl
  unfold Txt.rstripChars Txt.stripBy
  split
  · rename_i hs
    unfold stripSame at hs
    rw [e3, e2, lit_len] at hs
    have : k = 0 := by
      simp at hs
      exact hs
    subst this
    simp
  · unfold PySem.stripped
    rw [e3, e2]
    apply str_eq
    rw [StrLaws.strSub_toList]
    simp [lit]
end Mine
end
/-! Txm -/
section
open PySem PySem.W PyProof.Rows PySem.Calls PySem.NumText
namespace Mine
theorem slice_tail (c : Nat) (l : List Nat) : Txt.slice (lit (c :: l)) (some 1) none = lit l := by
  rw [slice_from_eq (b := ((lit (c :: l)).length : Int)) (by decide) (by rw [lit_len, List.length_cons]; omega) rfl]
  apply str_eq
  show ((((c :: l).toArray.toList.drop (Int.toNat 1)).take _).toArray).toList = l
  rw [lit_len]
  simp
theorem slice_init (c : Nat) (l : List Nat) : Txt.slice (lit (l ++ [c])) none (some (-1)) = lit l := by
  have e : Txt.slice (lit (l ++ [c])) none (some (-1)) = Txt.slice (lit (l ++ [c])) none (some (l.length : Int)) := by
    have e2 : PySem.Builtin.Str.strSliceIndices none (some (-1)) 1 (lit (l ++ [c])).length = PySem.Builtin.Str.strSliceIndices none (some (l.length : Int)) 1 (lit (l ++ [c])).length := by
      rw [lit_len, List.length_append, List.length_singleton]
      have h1 : ¬ ((l.length : Int) < 0) := by omega
      simp only [PySem.Builtin.Str.strSliceIndices, show (-1 : Int) < 0 by decide, show (1 : Int) > 0 by decide, if_true, if_false, h1]
      rw [show (-1 : Int) + ((l.length + 1 : Nat) : Int) = (l.length : Int) by omega]
    unfold Txt.slice
    rw [e2]
  rw [e, beq_iff_eq.mp (slice_closes_toL (x := lit (l ++ [c])) (j := (l.length : Int)) (by omega) (by rw [lit_len, List.length_append]; omega))]
  apply str_eq
  simp [lit]
theorem item_last (c : Nat) (l : List Nat) : Txt.item (lit (l ++ [c])) (-1) = lit [c] := by
  rw [← lit_app]
  exact item_last_right1 (lit l) c
theorem digits_zeros (z : Nat) (l : List Nat) : digitsVal (List.replicate z 48 ++ l) = digitsVal l := by
  induction z with
  | zero => rfl
  | succ z ih => rw [List.replicate_succ, List.cons_append, digitsVal_zero, ih]
theorem int_zeros {z : Nat} {n : Int} (h0 : 0 ≤ n) (hz : z ≤ 2) (h1 : n < 4294967296) : PySem.intText? (lit (List.replicate z 48 ++ digs n)) = some n := by
  have hl := digs_len h0 (show n < 10 ^ 10 by omega)
  rw [intText_digits (x := lit (List.replicate z 48 ++ digs n)) ?_ ?_ ?_]
  · rw [lit_cps, digits_zeros, digs_val h0]
  · rw [lit_cps]
    intro c hc
    rcases List.mem_append.mp hc with hc | hc
    · rw [(List.mem_replicate.mp hc).2]; decide
    · exact digs_all c hc
  · rw [lit_cps]
    intro e
    exact digs_ne (List.append_eq_nil_iff.mp e).2
  · rw [lit_len, List.length_append, List.length_replicate]; omega
theorem mark_is (l : List Nat) (c : Nat) : isMark (lit (l ++ [c])) = (c == 104 || c == 72 || c == 39) := by
  have key : ∀ d, decide (lit [c] = lit [d]) = (c == d) := fun d => by
    rw [Bool.eq_iff_iff]
    simp [lit]
  unfold isMark
  rw [item_last, s_h, show PySem.Str.ofString "H" = lit [72] from rfl, show PySem.Str.ofString "'" = lit [39] from rfl, key, key, key, Bool.false_or]
theorem snoc_of {l : List Nat} (h : l ≠ []) : ∃ r c, l = r ++ [c] := ⟨l.dropLast, l.getLast h, (List.dropLast_concat_getLast h).symm⟩
/-- what a step's text is worth -/
theorem item_step {z : Nat} {n : Int} {mk : Nat} (h0 : 0 ≤ n) (hz : z ≤ 2) (h1 : n < 4294967296) (hm : mk = 104 ∨ mk = 72 ∨ mk = 39) :
    0 < (lit (List.replicate z 48 ++ stepL n [mk])).length ∧ (lit (List.replicate z 48 ++ stepL n [mk])).length ≤ 100 ∧ itemVal? (lit (List.replicate z 48 ++ stepL n [mk])) = some n := by
  by_cases hn : n < 2147483648
  · have e : stepL n [mk] = digs n := if_pos hn
    rw [e]
    have hl := digs_len h0 (show n < 10 ^ 10 by omega)
    have hp : 0 < (digs n).length := List.length_pos_iff.mpr digs_ne
    refine ⟨by rw [lit_len, List.length_append]; omega, by rw [lit_len, List.length_append, List.length_replicate]; omega, ?_⟩
    have hmk : isMark (lit (List.replicate z 48 ++ digs n)) = false := by
      obtain ⟨r, c, er⟩ := snoc_of (digs_ne (n := n))
      have hc := digs_all (n := n) c (by rw [er]; simp)
      rw [er, ← List.append_assoc, mark_is]
      simp
      omega
    unfold itemVal?
    rw [if_neg (by rw [hmk]; decide), int_zeros h0 hz h1]
  · have e : stepL n [mk] = digs (n - 2147483648) ++ [mk] := if_neg hn
    rw [e]
    have hl := digs_len (n := n - 2147483648) (by omega) (show n - 2147483648 < 10 ^ 10 by omega)
    refine ⟨by rw [lit_len, List.length_append, List.length_append, List.length_singleton]; omega, by rw [lit_len, List.length_append, List.length_append, List.length_replicate, List.length_singleton]; omega, ?_⟩
    rw [← List.append_assoc]
    unfold itemVal?
    rw [if_pos (by rw [mark_is]; rcases hm with rfl | rfl | rfl <;> rfl), slice_init, int_zeros (by omega) hz (by omega), Option.map_some]
    congr 1
    omega
theorem step_free {z : Nat} {n : Int} {mk : Nat} (hm : mk = 104 ∨ mk = 72 ∨ mk = 39) : 47 ∉ List.replicate z 48 ++ stepL n [mk] := by
  intro h
  rcases List.mem_append.mp h with h | h
  · have := (List.mem_replicate.mp h).2
    omega
  · unfold stepL at h
    split at h
    · have := digs_all _ h; omega
    · rcases List.mem_append.mp h with h | h
      · have := digs_all _ h; omega
      · have := List.mem_singleton.mp h; omega
end Mine
end
/-! Txn -/
section
open PySem PySem.W PyProof.Rows PySem.Calls PySem.NumText
namespace Mine
theorem joinL_cons : ∀ (x : List Nat) (r : List (List Nat)), joinL (x :: r) = x ++ r.flatMap fun y => 47 :: y
  | x, [] => by simp [joinL]
  | x, y :: r => by
    show x ++ 47 :: joinL (y :: r) = _
    rw [joinL_cons y r, List.flatMap_cons]
    rfl
theorem joinL_snoc : ∀ (its : List (List Nat)) (x : List Nat), ∃ p, joinL (its ++ [x]) = p ++ x
  | [], x => ⟨[], rfl⟩
  | y :: r, x => by
    rw [List.cons_append, joinL_cons, List.flatMap_append]
    exact ⟨y ++ (r.flatMap fun y => 47 :: y) ++ [47], by simp⟩
/-- a text cut at its strokes -/
theorem parts_of {L its : List (List Nat)} {x : List Nat} {k : Nat} (hL : L = its ++ [x]) (hf : ∀ y ∈ L, 47 ∉ y) (hx : x ≠ []) :
    Txt.split (Txt.rstripChars (lit (joinL L ++ List.replicate k 47)) (PySem.Str.ofString "/")) (PySem.Str.ofString "/") = L.map lit := by
  rw [s_slash, rstrip_one, split_lit (by rw [hL]; simp) hf]
  intro c r e
  obtain ⟨p, hp⟩ := joinL_snoc its x
  rw [hL, hp, List.reverse_append] at e
  have hm : c ∈ x := by
    obtain ⟨q, d, hq⟩ := snoc_of hx
    rw [hq, List.reverse_append] at e
    have : d = c := by simpa using (List.cons.inj e).1
    rw [hq, ← this]
    simp
  intro q
  exact hf x (by rw [hL]; simp) (q ▸ hm)
/-- parts that tell the numbers -/
def Good (its : List (List Nat)) (ps : List Int) : Prop := its.length = ps.length ∧ ∀ (i : Nat) (x : List Nat), its[i]? = some x → ∃ n : Int, ps[i]? = some n ∧ 0 < (lit x).length ∧ (lit x).length ≤ 100 ∧ itemVal? (lit x) = some n ∧ 0 ≤ n ∧ n < 4294967296 ∧ 47 ∉ x
theorem Good.free {its : List (List Nat)} {ps : List Int} (G : Good its ps) : ∀ x ∈ its, 47 ∉ x := fun x hx => by
  obtain ⟨i, hi, rfl⟩ := List.mem_iff_getElem.mp hx
  obtain ⟨_, _, _, _, _, _, _, h⟩ := G.2 i _ (List.getElem?_eq_getElem hi)
  exact h
theorem Good.full {its : List (List Nat)} {ps : List Int} (G : Good its ps) : ∀ x ∈ its, x ≠ [] := fun x hx e => by
  obtain ⟨i, hi, rfl⟩ := List.mem_iff_getElem.mp hx
  obtain ⟨_, _, h, _⟩ := G.2 i _ (List.getElem?_eq_getElem hi)
  rw [e] at h
  exact absurd h (by decide)
theorem Good.items {its : List (List Nat)} {ps : List Int} (G : Good its ps) : ItemsOk (its.map lit) ps := by
  refine ⟨by rw [List.length_map, G.1], fun i e he => ?_⟩
  rw [List.getElem?_map] at he
  obtain ⟨x, hx, rfl⟩ := Option.map_eq_some_iff.mp he
  obtain ⟨n, a1, a2, a3, a4, a5, a6, _⟩ := G.2 i x hx
  exact ⟨n, a1, a2, a3, a4, a5, a6⟩
theorem steps_m (r : List (List Nat)) : stepsOf (([109] :: r).map lit) = r.map lit := by
  unfold stepsOf
  rw [List.map_cons, if_pos (by rw [List.head?_cons, s_m])]
  rfl
theorem steps_n {L : List (List Nat)} (h : L.head? ≠ some [109]) : stepsOf (L.map lit) = L.map lit := by
  unfold stepsOf
  rw [if_neg]
  intro e
  rw [List.head?_map] at e
  obtain ⟨x, hx, hxe⟩ := Option.map_eq_some_iff.mp e
  rw [s_m] at hxe
  have : x = [109] := by
    have := congrArg (fun y => y.cps.toList) hxe
    simpa [lit] using this
  exact h (this ▸ hx)
theorem m_none : itemVal? (lit [109]) = none := by decide +kernel
theorem Good.head {its : List (List Nat)} {ps : List Int} (G : Good its ps) : its.head? ≠ some [109] := fun e => by
  rw [List.head?_eq_getElem?] at e
  obtain ⟨n, _, _, _, h, _⟩ := G.2 0 _ e
  rw [m_none] at h
  cases h
theorem last_of {α : Type} {l : List α} (h : l ≠ []) : ∃ r c, l = r ++ [c] := ⟨l.dropLast, l.getLast h, (List.dropLast_concat_getLast h).symm⟩
/-- the steps' texts alone -/
theorem parse_plain {its : List (List Nat)} {ps : List Int} (G : Good its ps) (h : its ≠ []) : ∃ qs, Txt.split (Txt.rstripChars (lit (joinL its)) (PySem.Str.ofString "/")) (PySem.Str.ofString "/") = qs ∧ ItemsOk (stepsOf qs) ps := by
  obtain ⟨r, x, e⟩ := last_of h
  have z := parts_of (k := 0) e G.free (G.full x (by rw [e]; simp))
  rw [List.replicate_zero, List.append_nil] at z
  exact ⟨_, z, by rw [steps_n G.head]; exact G.items⟩
/-- the steps' texts behind m, and strokes behind -/
theorem parse_m {its : List (List Nat)} {ps : List Int} (k : Nat) (G : Good its ps) : ∃ qs, Txt.split (Txt.rstripChars (lit (joinL ([109] :: its) ++ List.replicate k 47)) (PySem.Str.ofString "/")) (PySem.Str.ofString "/") = qs ∧ ItemsOk (stepsOf qs) ps := by
  obtain ⟨r, x, e⟩ := last_of (l := [109] :: its) (by simp)
  have hf : ∀ y ∈ [109] :: its, 47 ∉ y := fun y hy => by
    rcases List.mem_cons.mp hy with rfl | hy
    · decide
    · exact G.free y hy
  have hx : x ≠ [] := by
    have : x ∈ [109] :: its := by rw [e]; simp
    rcases List.mem_cons.mp this with rfl | hy
    · decide
    · exact G.full x hy
  exact ⟨_, parts_of (k := k) e hf hx, by rw [steps_m]; exact G.items⟩
def BadItem (e : PySem.Str) : Prop := e = PySem.Str.ofString "" ∨ (0 < e.length ∧ e.length ≤ 100 ∧ itemVal? e = none ∧ (reprText e).length ≤ sizeLine ∧ (reprText (Txt.slice e none (some (-1)))).length ≤ sizeLine)
/-- the items of which the j-th is refused, those before it are numbers -/
def ItemsBad (qs : List PySem.Str) (j : Nat) : Prop := j < qs.length ∧ (∀ (i : Nat) (e : PySem.Str), i < j → qs[i]? = some e → ∃ n : Int, 0 < e.length ∧ e.length ≤ 100 ∧ itemVal? e = some n ∧ 0 ≤ n ∧ n < 4294967296) ∧
  ∀ e : PySem.Str, qs[j]? = some e → e = PySem.Str.ofString "" ∨ (0 < e.length ∧ e.length ≤ 100 ∧ itemVal? e = none ∧ (reprText e).length ≤ sizeLine ∧ (reprText (Txt.slice e none (some (-1)))).length ≤ sizeLine)
theorem bad_at {its : List (List Nat)} {ps : List Int} (G : Good its ps) {x : List Nat} {r : List (List Nat)} (hx : BadItem (lit x)) : ItemsBad ((its ++ x :: r).map lit) its.length := by
  refine ⟨by simp, fun i e hi he => ?_, fun e he => ?_⟩
  · rw [List.getElem?_map, List.getElem?_append_left hi] at he
    obtain ⟨y, hy, rfl⟩ := Option.map_eq_some_iff.mp he
    obtain ⟨n, a1, a2, a3, a4, a5, a6, _⟩ := G.2 i y hy
    exact ⟨n, a2, a3, a4, a5, a6⟩
  · rw [List.getElem?_map, List.getElem?_append_right (Nat.le_refl _), Nat.sub_self, List.getElem?_cons_zero, Option.map_some] at he
    cases he
    exact hx
theorem bad_x : BadItem (lit [120]) := .inr (by rw [sizeLine_eq]; decide +kernel)
theorem bad_1hh : BadItem (lit [49, 104, 104]) := .inr (by rw [sizeLine_eq]; decide +kernel)
theorem bad_h : BadItem (lit [104]) := .inr (by rw [sizeLine_eq]; decide +kernel)
theorem bad_n : BadItem (lit [110]) := .inr (by rw [sizeLine_eq]; decide +kernel)
theorem bad_15 : BadItem (lit [49, 46, 53]) := .inr (by rw [sizeLine_eq]; decide +kernel)
theorem bad_none : BadItem (lit []) := .inl rfl
/-- a text behind m of which one part is refused -/
theorem parse_bad_m {its : List (List Nat)} {ps : List Int} (G : Good its ps) {x y : List Nat} {r r' : List (List Nat)} (hx : BadItem (lit x)) (hr : x :: r = r' ++ [y]) (hy : y ≠ []) (hf : ∀ z ∈ x :: r, 47 ∉ z) :
    ∃ qs, Txt.split (Txt.rstripChars (lit (joinL ([109] :: (its ++ x :: r)))) (PySem.Str.ofString "/")) (PySem.Str.ofString "/") = qs ∧ ItemsBad (stepsOf qs) its.length ∧ qs.length = its.length + r.length + 2 := by
  have z := parts_of (k := 0) (L := [109] :: (its ++ x :: r)) (its := [109] :: (its ++ r')) (x := y) (by rw [hr]; simp) (fun q hq => ?_) hy
  · rw [List.replicate_zero, List.append_nil] at z
    exact ⟨_, z, by rw [steps_m]; exact bad_at G hx, by simp; omega⟩
  · rcases List.mem_cons.mp hq with rfl | hq
    · decide
    · rcases List.mem_append.mp hq with hq | hq
      · exact G.free q hq
      · exact hf q hq
/-- a text that begins with n -/
theorem parse_bad_n {its : List (List Nat)} {ps : List Int} (G : Good its ps) :
    ∃ qs, Txt.split (Txt.rstripChars (lit (joinL ([110] :: (its ++ [[49]])))) (PySem.Str.ofString "/")) (PySem.Str.ofString "/") = qs ∧ ItemsBad (stepsOf qs) 0 ∧ qs.length = its.length + 2 := by
  have z := parts_of (k := 0) (L := [110] :: (its ++ [[49]])) (its := [110] :: its) (x := [49]) (by simp) (fun q hq => ?_) (by decide)
  · rw [List.replicate_zero, List.append_nil] at z
    refine ⟨_, z, ?_, by simp⟩
    rw [steps_n (by rw [List.head?_cons]; decide)]
    exact bad_at (its := []) (ps := []) ⟨rfl, fun i x h => by simp at h⟩ bad_n
  · rcases List.mem_cons.mp hq with rfl | hq
    · decide
    · rcases List.mem_append.mp hq with hq | hq
      · exact G.free q hq
      · have := List.mem_singleton.mp hq
        subst this
        decide
end Mine
end
/-! NTry -/
section
open PySem PySem.W PyProof.Rows PySem.Calls PyProof.V PySem.Spec
namespace Mine
/-- a try with clauses, its body by this text's logic -/
theorem N_Try {M : Model} {A : Around} {E : Value → Shared → Prop} {s : Shared} {env : Env} {body orelse : List Stmt} {h₀ : ExceptHandler} {hs : List ExceptHandler} {pos : Pos} {Q : Flow → Shared → Prop}
    (h : wpN M A (execs body env) (fun f s₁ => match f with | .next => wpN M A (execs orelse env) Q E s₁ | f => Q f s₁)
      (fun e s₁ => wpAny M A (noteFrame e env) (fun _ s₂ => wpAny M A (setFlight e none) (fun _ s₃ => wpAny M A (handleBy e env (h₀ :: hs)) Q E s₃) E s₂) E s₁) s) :
    wpN M A (exec (.Try body (h₀ :: hs) orelse [] pos) env) Q E s := by
  rw [arm_exec_Try]
  refine wpN_at ?_
  unfold tryStmt
  simp only [List.isEmpty_nil, if_true, List.isEmpty_cons, Bool.false_and, Bool.false_eq_true, if_false]
  refine wpN_bind (wpN_attempt (wpN_mono h (fun f s₁ h₁ => ?_) fun e s₁ h₁ => ?_))
  · cases f <;> first | exact h₁ | exact wpN_pure h₁
  · exact wpN_lift (wpAny_bind (wpAny_mono h₁ (fun _ _ h₂ => wpAny_bind h₂) fun _ _ x => x))
theorem N_true_Not {M : Model} {A : Around} {E : Value → Shared → Prop} {s : Shared} {env : Env} {x : Expr} {pos : Pos} {whole : Sem Value} {Q : Bool → Shared → Prop} (h : wpN M A (isTrue x env (eval x env)) (fun c s' => Q (!c) s') E s) :
    wpN M A (isTrue (.UnaryOp .Not x pos) env whole) Q E s := by
  show wpN M A (do return !(← isTrue x env (eval x env))) Q E s
  exact wpN_bindm h fun c s' h' => wpN_pure h'
theorem N_true_Call {M : Model} {A : Around} {E : Value → Shared → Prop} {s : Shared} {env : Env} {f : Expr} {args : List Expr} {kws : List Keyword} {pos : Pos} {whole : Sem Value} {Q : Bool → Shared → Prop} (h : wpN M A whole (fun v s₁ => wpAny M A (truthy v) Q E s₁) E s) :
    wpN M A (isTrue (.Call f args kws pos) env whole) Q E s := by
  show wpN M A (whole >>= fun v => _) Q E s
  exact wpN_bindm h fun v s' h' => wpN_at (wpN_holding (wpN_lift h'))
section
variable {prog : Program} {w : World} {A A₀ : Around} {s s' : Shared} {K : Frag} {L a e t : Addr} {h₀ base h : Heap} {m mg mb : PySem.Str → Option Value} {news : List (Addr × Obj)} {p : Program} {loose : List PySem.Str} {mean : ExcName → Option Value} {R : Result → Shared → Prop}
/-- an exception caught by a clause that names two classes -/
theorem caught_two {E : Value → Shared → Prop} {cn : PySem.Str} {cs : Scope} {ccd : Value} {outer : List Env} {vs : List Value} {X T1 T2 : String} {x1 x2 : PySem.Str} {p1 p2 tpos pos : Pos} {kk : Nat} {b₀ : Stmt} {suite : List Stmt} {rest : List ExceptHandler} {Q : Flow → Shared → Prop} {b1 b2 : Bool}
    (hfr : A.frames = some (envX cn cs L a ccd [] :: outer)) (F : Fr h₀ L h m) (hsm : h.UpToSlots s'.heap) (R : RaisedK h₀ (envX cn cs L a ccd [] :: outer) e (.type X) t vs news s'.heap)
    (XK : K.In h₀) (T : TopRead p loose mg mb h₀) (ex1 : nsIn K mainGlobals x1 = some none) (ex2 : nsIn K mainGlobals x2 = some none) (hv1 : bootBuiltins x1 = some (.type T1)) (hv2 : bootBuiltins x2 = some (.type T2)) (hn1 : x1 ≠ "__name__") (hn2 : x2 ≠ "__name__")
    (hexc1 : isSubtype (.type T1) (.type "BaseException") = pure true) (hnt1 : isSubtype (.type ((Manifest.find? T1).elim "type" fun x => x.metatype)) (.type "tuple") = pure false)
    (hexc2 : isSubtype (.type T2) (.type "BaseException") = pure true) (hnt2 : isSubtype (.type ((Manifest.find? T2).elim "type" fun x => x.metatype)) (.type "tuple") = pure false)
    (hsub1 : isSubtype (.type X) (.type T1) = pure b1) (hsub2 : isSubtype (.type X) (.type T2) = pure b2) (hb : (b1 || b2) = true)
    (k : ∀ (h' : Heap) (E' : Value → Shared → Prop) (tk : Nat), h₀.StaysIn h' → (∀ q ∈ news, h'.get? q.1 = some q.2 ∧ h₀.get? q.1 = none) → s'.heap.UpToSlots h' → wpAny (model prog w) (A.mark (some (.ref e))) (execs (b₀ :: suite) (envX cn cs L a ccd [])) Q E' { s' with heap := h', toks := tk })
    (hk : cs.kind = .function) (hx1 : (envX cn cs L a ccd []).kindOf x1 = some .globalImplicit) (hd1 : (x1 == ("__debug__" : PySem.Str)) = false) (hx2 : (envX cn cs L a ccd []).kindOf x2 = some .globalImplicit) (hd2 : (x2 == ("__debug__" : PySem.Str)) = false) :
    wpAny (model prog w) A (noteFrame (.ref e) (envX cn cs L a ccd []))
      (fun _ s₂ => wpAny (model prog w) A (setFlight (.ref e) none) (fun _ s₃ =>
        wpAny (model prog w) A (handleBy (.ref e) (envX cn cs L a ccd []) (.ExceptHandler (some (.Tuple [.Name x1 p1, .Name x2 p2] kk tpos)) none (b₀ :: suite) pos :: rest)) Q E s₃) E s₂) E s' := by
  obtain ⟨⟨B, hB, hl, hfl, hnew⟩, htup⟩ := R
  refine wpAny_looks_onW hfr rfl hfl fun h₄ hheld₄ hsm₄ => ?_
  refine wpAny_landsW hheld₄ fun h₅ hheld hsm₅' => ?_
  have hsm₅ := hsm₄.trans hsm₅'
  have F₅ := F.of_stays (fun b o q => hheld.1 b o (hB b o q)) (hsm.trans hsm₅)
  obtain ⟨ob, hob, hobc⟩ := hheld.there
  refine wpAny_handleBy_tup2 (T1 := T1) (T2 := T2) hexc1 hnt1 hexc2 hnt2 hsub1 hsub2 ?_
  refine Tuple_ (spliced_more (nameX_B (s := { s' with heap := h₅ }) F₅ XK T ex1 hv1 hn1 (spliced_more (nameX_B (s := { s' with heap := h₅ }) F₅ XK T ex2 hv2 hn2 (spliced_none ?_) hk hx2 hd2)) hk hx1 hd1))
  refine wpAny_newObj_type ⟨_, rfl, IsTup.new _ _, ⟨ob, Heap.get?_push_of_some _ hob, hobc⟩, ?_⟩
  rw [if_pos hb]
  have up : ∀ b o, h₅.get? b = some o → (h₅.push { cls := .type "tuple", dict := none, data := .seq [Value.type T1, .type T2].toArray }).get? b = some o := fun b o q => Heap.get?_push_of_some _ q
  obtain ⟨f1, f2, f3, oe, ws, T', oT, ts, he, hc, hd, h1, hnT, hTe, hT, hdT, h3⟩ := hheld
  have hfl₆ : Heap.FlyingW B (envX cn cs L a ccd [] :: outer) e (.type X) (.ref t) (h₅.push { cls := .type "tuple", dict := none, data := .seq [Value.type T1, .type T2].toArray }) :=
    ⟨fun b o q => up _ _ (f1 b o q), f2, f3.of_keeps fun b o q _ => ⟨o, up _ _ q, rfl⟩, oe, ws, T', oT, ts, up _ _ he, hc, hd, h1, hnT, hTe, up _ _ hT, hdT, h3⟩
  refine lands_againW hfl₆ fun h₇ hfl₇ hsm₇ => ?_
  refine k h₇ _ _ (fun b o q => hfl₇.1 b o (hB b o q)) (fun q hq => ⟨hfl₇.1 _ _ (hl q hq).1, (hl q hq).2⟩) ((hsm₅.trans (Heap.UpToSlots.of_keeps up)).trans hsm₇)
section
variable {env : Env} {outer : List Env} {name qual : PySem.Str} {params : Arguments} {body : List Stmt} {scope : Scope} {dV kV doc pm cdv ct oc : Value} {an od : Option Addr} {osl : Array (Option Value)} {f : Addr} {args : Args} {binds : List (PySem.Str × Value)}
/-- a def without cells whose caller's frame may be turned: the result is asked as it stands -/
theorem code_defNR (B : Below A₀ base outer h₀) (F : Fr h₀ L s.heap m) (X₀ : K.In h₀) (N : News h₀ L s.heap news) (T : Top p loose mean mg mb h₀) (hA : A.frames = some (env :: outer)) (hf : env.frame = some L) (hke : env.scope.kind = .function)
    (ho : K.lookup f = some ⟨oc, od, .func (fnOf name qual params body scope dV kV doc pm an cdv ct), osl⟩) (hcd : codeIn K cdv qual = true) (hroom : A.depth < recursionLimit)
    (hbind : BindsTo s (fnOf name qual params body scope dV kV doc pm an cdv ct) args binds) (hloc : ∀ y ∈ binds, scope.names.lookup y.1 = some .local)
    (h : ∀ g L' h₁, Fr h₀ L g m → Fr g L' h₁ (fun y => binds.reverse.lookup y) → News g L' h₁ news → Below A base (env :: outer) g → K.In g → Top p loose mean mg mb g →
      wpN (model prog w) (A.deeper (envOf qual scope L' f cdv)) (execs body (envOf qual scope L' f cdv))
        (fun fl s' => R (.ok (.ret (match fl with | .ret v => v | _ => .none))) s')
        (fun e s' => wpAny (model prog w) (A.deeper (envOf qual scope L' f cdv)) (leaving (envOf qual scope L' f cdv) e) (fun _ s'' => R (.error e) s'') (fun e' s'' => R (.error e') s'') s')
        { s with heap := h₁, toks := s.toks + binds.length })
    (hco : scope.isCoroutine = false) (hgen : scope.isGenerator = false) (hk : scope.kind = .function)
    (hcell : ∀ x ∈ scope.names, x.2 ≠ .cell) : codeN (model prog w) A (.call (.ref f) args) R s := by
  refine codeN_call_function (fd := fnOf name qual params body scope dV kV doc pm an cdv ct) (body := body) hroom ((X₀.keeps F.keep) _ _ ho) rfl hco hgen rfl (codeRec_of (X₀.keeps F.keep) hcd) (hbind _ _ _ _ ?_)
  obtain ⟨FG, BG, st, _⟩ := groundX (R := R) B F N hA hf hke
  refine wpAny_newFunctionEnv hcell hloc (fun h₁ hns hsb => ⟨(T.nolimit.keeps F.keep).fresh _ hsb, codeN_func ?_⟩) hk
  have hk₁ : ∀ b o, s.heap.get? b = some o → h₁.get? b = some o := fun b o e => hsb.extBut b o (Nat.ne_of_lt (Heap.lt_size e)) (Heap.get?_push_of_some _ e)
  have F' : Fr (hideAll s.heap (news.map (·.1))) s.heap.objs.size h₁ (fun y => binds.reverse.lookup y) := ⟨hns, fun b o e => hk₁ b o (of_hideAll _ e), Nat.le_of_eq (hideAll_size _ _)⟩
  have N' : News (hideAll s.heap (news.map (·.1))) s.heap.objs.size h₁ news := fun p hp => ⟨hk₁ _ _ (N p hp).1, Nat.ne_of_lt (Heap.lt_size (N p hp).1), hideAll_none _ (List.mem_map_of_mem hp)⟩
  exact h _ s.heap.objs.size h₁ FG F' N' BG (X₀.keeps st) (T.keeps st)
end
end
end Mine
end
/-! Ba5 -/
section
open PySem PySem.W PyProof.Rows PySem.Calls PyProof.V PySem.Spec
namespace Mine
namespace Ba
theorem slot_len : Slot "bytearray" "__len__" "bytearray.__len__" :=
  .of (owner := "bytearray") (n := "__len__") (by rw [typeLookup_type, builtinLookup_eq_fast]; kernel_rfl) (by decide +kernel) (by decide +kernel) (by decide +kernel)
    (by first | exact .inl (by decide +kernel) | exact .inr (by decide +kernel)) (by rw [isSubtype_type]; kernel_rfl)
theorem entry_len : entryFor table "bytearray.__len__" = some Builtin.«bytearray.__len__» := entryFor_of_tree (by kernel_rfl)
theorem args_len (a : Value) : argsOk "bytearray.__len__" ⟨[a], []⟩ := by unfold argsOk; kernel_rfl
theorem slot_get : Slot "bytearray" "__getitem__" "bytearray.__getitem__" :=
  .of (owner := "bytearray") (n := "__getitem__") (by rw [typeLookup_type, builtinLookup_eq_fast]; kernel_rfl) (by decide +kernel) (by decide +kernel) (by decide +kernel)
    (by first | exact .inl (by decide +kernel) | exact .inr (by decide +kernel)) (by rw [isSubtype_type]; kernel_rfl)
theorem entry_get : entryFor table "bytearray.__getitem__" = some Builtin.«bytearray.__getitem__» := entryFor_of_tree (by kernel_rfl)
theorem args_get (a b : Value) : argsOk "bytearray.__getitem__" ⟨[a, b], []⟩ := by unfold argsOk; kernel_rfl
theorem lk_bytes : typeLookup (.type "bytearray") "__bytes__" = pure none := by rw [typeLookup_type, builtinLookup_eq_fast]; kernel_rfl
theorem lk_index : typeLookup (.type "bytearray") "__index__" = pure none := by rw [typeLookup_type, builtinLookup_eq_fast]; kernel_rfl
theorem lk_buffer : typeLookup (.type "bytearray") "__buffer__" = pure (some (.builtin "bytearray.__buffer__")) := by rw [typeLookup_type, builtinLookup_eq_fast]; kernel_rfl
end Ba
section
variable {prog : Program} {w : World} {M : Model} {A : Around} {s : Shared} {E : Value → Shared → Prop} {h : Heap} {S I : Addr} {b d : Array UInt8} {lo hi : Int} {tl th t : Tok}
theorem ba_typeIs (hS : s.heap.get? S = some (baObj b)) : s.TypeIs (.ref S) "bytearray" := ⟨_, hS, rfl⟩
theorem call_len_ba {Q : Value → Shared → Prop} (hS : s.heap.get? S = some (baObj b)) (hfit : (b.size : Int) < 2 ^ 63)
    (h : Q (.int b.size (s.toks + 1)) { s with toks := s.toks + 1 + 1 }) : wpAny (model prog w) A (call (.builtin "len") [.ref S]) Q E s := by
  refine call_function_entry kind_len plain_len entry_len (args_len1 _) ?_
  unfold Builtin.«len»
  refine wpAny_bind (m := oneArg "len" _) (wpAny_pure ?_)
  refine wpAny_bind (m := callSpecial? (.ref S) (Str.ofString "__len__")) (wpAny_callSpecial?_slot (name := Str.ofString "__len__") (ba_typeIs hS) Ba.slot_len
    (wpAny_call_entry Ba.slot_len (ba_typeIs hS) Ba.entry_len ?_ (Ba.args_len _)))
  unfold Builtin.«bytearray.__len__»
  refine wpAny_bind (wpAny_pure ?_)
  refine wpAny_bind ((Ba.payload hS).here ?_)
  refine wpAny_bind (wpAny_mkInt (wpAny_pure ⟨_, rfl, ?_⟩))
  refine wpAny_bind (wpAny_holding (wpAny_pure ?_))
  refine wpAny_bind (wpAny_letGo ?_)
  show wpAny _ _ (if ((b.size : Nat) : Int) < 0 then _ else _) _ _ _
  rw [if_neg (by omega)]
  show wpAny _ _ (if ((b.size : Nat) : Int) ≥ 2 ^ 63 then _ else _) _ _ _
  rw [if_neg (by omega)]
  exact wpAny_bind (wpAny_mkInt (wpAny_pure ⟨_, rfl, h⟩))
theorem ba_getItem {Q : Value → Shared → Prop} (hS : s.heap.get? S = some (baObj b)) (hI : s.heap.get? I = some (slObj (.int lo tl) (.int hi th))) (h0 : 0 ≤ lo) (h1 : 0 ≤ hi)
    (hz : (Builtin.Bytes.sliced b (max 0 (min lo b.size)) (max 0 (min hi b.size)) 1).size ≤ sizeLine)
    (h : Q (.ref s.heap.objs.size) { s with heap := s.heap.push (baObj (Builtin.Bytes.sliced b (max 0 (min lo b.size)) (max 0 (min hi b.size)) 1)) }) : wpAny (model prog w) A (getItem (.ref S) (.ref I)) Q E s := by
  unfold getItem
  refine wpAny_holding (wpAny_bind ?_)
  have hk : Looks (model prog w) s.heap (sequenceKey (.ref S) (.ref I) "__getitem__") (.ref I) := by
    unfold sequenceKey
    refine (Ba.typ hS).andThen ?_
    exact Looks.now
  refine hk.here ?_
  refine wpAny_bind (m := callSpecial? (.ref S) (Str.ofString "__getitem__") [.ref I]) (wpAny_callSpecial?_slot (name := Str.ofString "__getitem__") (ba_typeIs hS) Ba.slot_get
    (wpAny_call_entry Ba.slot_get (ba_typeIs hS) Ba.entry_get ?_ (Ba.args_get _ _)))
  unfold Builtin.«bytearray.__getitem__»
  refine wpAny_bind (wpAny_pure ?_)
  refine wpAny_bind ((Sl.subscript hI).here ?_)
  refine wpAny_bind ((Sl.typ hI).here ?_)
  refine bm_if_false (by decide) ?_
  refine wpAny_bind ((Sl.parts hI).here ?_)
  refine wpAny_bind ((Ba.payload hS).here ?_)
  refine wpAny_bind (wpAny_of_eq (Sl.indices lo hi b.size h0 h1) ?_)
  unfold Builtin.Bytes.newBytearray
  refine wpAny_bind (wpAny_newObj_type (wpAny_pure ⟨_, rfl, ?_⟩) hz)
  exact wpAny_pure h
theorem Ba.buffer (hS : h.get? S = some (baObj b)) : Looks M h (Builtin.Bytes.buffer? "bytes.__new__" (.ref S) true) (some b) := by
  have l1 : Looks M h (specialOf (.ref S) "__buffer__") (some (.builtin "bytearray.__buffer__")) := by unfold specialOf; exact (Ba.typ hS).andThen (Looks.of_pure Ba.lk_buffer)
  have l2 : Looks M h (Builtin.Bytes.slotIsOwn (.ref S) "__buffer__") true := by
    unfold Builtin.Bytes.slotIsOwn isInstance
    refine l1.andThen ?_
    show Looks M h (if !("bytearray.__buffer__".endsWith ("." ++ "__buffer__")) then pure false else (typeOf (.ref S) >>= fun t => isSubtype t (.type ("bytearray.__buffer__".dropRight ("__buffer__".length + 1))))) true
    rw [if_neg (by decide +kernel), show "bytearray.__buffer__".dropRight ("__buffer__".length + 1) = "bytearray" by decide +kernel]
    exact (Ba.typ hS).andThen (Looks.of_pure Ba.sub_self)
  unfold Builtin.Bytes.buffer?
  refine l1.andThen (l2.andThen ?_)
  refine l1.andThen ?_
  refine (Ba.release hS).andThen ?_
  exact (Ba.payload hS).andThen .now
theorem ba_bytes {Q : Value → Shared → Prop} (hS : s.heap.get? S = some (baObj b)) (hz : b.size ≤ sizeLine) (h : Q (.bytes b s.toks) { s with toks := s.toks + 1 }) : wpAny (model prog w) A (call (.type "bytes") [.ref S]) Q E s := by
  refine callType_codes (Q₁ := fun obj s₁ => s₁.TypeIs obj "bytes" ∧ Q obj s₁) F.bm_called (F.bm_typeCall _) F.entry_object_init ?_ fun obj s₁ h₁ => ?_
  · refine codeAny_of_tree ?_
    show wpAny _ A.in1.in1 (do checkBuiltinCall "bytes.__new__" ⟨[.type "bytes", .ref S], []⟩; again (.builtin "bytes.__new__" ⟨[.type "bytes", .ref S], []⟩)) _ _ s
    refine wpAny_bind (wpAny_of_eq (F.bm_newCall _) (wpAny_pure ⟨plainId_quiet F.bm_plain _, codeAny_builtin F.bm_entry ?_⟩))
    rw [Around.under_plainId F.bm_plain _]
    have hT : s.TypeIs (.ref S) "bytearray" := ba_typeIs hS
    unfold Builtin.«bytes.__new__»
    refine wpAny_bind (wpAny_of_eq (a := true) rfl ?_)
    refine bm_if_false rfl ?_
    refine wpAny_bind (wpAny_of_eq F.bm_sub ?_)
    refine bm_if_false rfl ?_
    refine wpAny_bind (wpAny_of_eq (F.bm_bind _) ?_)
    refine wpAny_bind (wpAny_of_eq (a := ()) rfl ?_)
    refine wpAny_bind (wpAny_of_eq (a := ()) rfl ?_)
    refine bm_if_false rfl ?_
    refine wpAny_bind (wpAny_specialOf hT Ba.lk_bytes ?_)
    refine wpAny_bind (wpAny_bind ?_)
    show wpAny _ _ (load S >>= _) _ _ _
    refine wpAny_bind (wpAny_load hS ?_)
    refine wpAny_pure (wpAny_pure ?_)
    refine bm_if_false rfl ?_
    refine wpAny_bind (wpAny_specialOf hT Ba.lk_index ?_)
    refine bm_if_true rfl ?_
    first
      | show wpAny _ _ (Builtin.Bytes.buffer? "bytes.__new__" (.ref S) true >>= _) _ _ _
      | (refine wpAny_bind ?_; show wpAny _ _ (Builtin.Bytes.buffer? "bytes.__new__" (.ref S) true >>= _) _ _ _)
    refine wpAny_bind ((Ba.buffer hS).here ?_)
    refine wpAny_bind (wpAny_rule ?_)
    refine wpAny_bind (wpAny_mkBytes ?_ hz)
    show wpAny _ _ (if (Value.type "bytes" == Value.type "bytes") = true then _ else _) _ _ _
    refine bm_if_true (by decide) ?_
    first
      | exact wpAny_pure ⟨PySem.W.typeIs_bytes _ _ _, h⟩
      | exact wpAny_bind (wpAny_pure (wpAny_pure ⟨PySem.W.typeIs_bytes _ _ _, h⟩))
  · exact ⟨h₁.1, F.args_object_init_2 obj _, object_init_meets F.bm_called.init.lookup F.bm_called.made (by decide) prog w A.in1 _ s₁ ⟨h₁.1, rfl, h₁.2⟩⟩
theorem call_len_baN {h₀ : Heap} {L : Addr} {news : List (Addr × Obj)} {Q : Value → Shared → Prop} (N : News h₀ L s.heap news) (hm : (S, baObj b) ∈ news) (hfit : (b.size : Int) < 2 ^ 63)
    (h : Q (.int b.size (s.toks + 1)) { s with toks := s.toks + 1 + 1 }) : wpAny (model prog w) A (call (.builtin "len") [.ref S]) Q E s := call_len_ba (N _ hm).1 hfit h
theorem ba_bytesN {h₀ : Heap} {L : Addr} {news : List (Addr × Obj)} {Q : Value → Shared → Prop} (N : News h₀ L s.heap news) (hm : (S, baObj b) ∈ news) (hz : b.size ≤ sizeLine) (h : Q (.bytes b s.toks) { s with toks := s.toks + 1 }) :
    wpAny (model prog w) A (call (.type "bytes") [.ref S]) Q E s := ba_bytes (N _ hm).1 hz h
theorem led_write {h₀ h h' : Heap} {L : Addr} {m : PySem.Str → Option Value} {news : List (Addr × Obj)} {o o' : Obj} (F : Fr h₀ L h m) (N : News h₀ L h ((S, o) :: news)) (o1 : ∀ p ∈ news, p.1 ≠ S)
    (k : ∀ a x, a ≠ S → h.get? a = some x → h'.get? a = some x) (hS : h'.get? S = some o') : Fr h₀ L h' m ∧ News h₀ L h' ((S, o') :: news) := by
  have n := N _ (.head _)
  refine ⟨⟨F.ns.at' fun o e => k _ o (fun q => n.2.1 q.symm) e, fun b o e => k b o (fun q => by rw [q, n.2.2] at e; cases e) (F.keep b o e), F.above⟩, fun p hp => ?_⟩
  rcases List.mem_cons.mp hp with rfl | hp
  · exact ⟨hS, n.2.1, n.2.2⟩
  · exact ⟨k _ _ (o1 p hp) (N p (.tail _ hp)).1, (N p (.tail _ hp)).2⟩
theorem sub_ba {lo' hi' : Expr} {nm : PySem.Str} {np p : Pos} {h₀ h : Heap} {L : Addr} {m : PySem.Str → Option Value} {news : List (Addr × Obj)} {Q : Value → Shared → Prop} {g d' tk os}
    (F : Fr h₀ L h m) (N : News h₀ L h news) (hm : (S, baObj b) ∈ news) (h0 : 0 ≤ lo) (h1 : 0 ≤ hi)
    (hz : (Builtin.Bytes.sliced b (max 0 (min lo b.size)) (max 0 (min hi b.size)) 1).size ≤ sizeLine)
    (hq : ∀ T h', Fr h₀ L h' m → News h₀ L h' ((T, baObj (Builtin.Bytes.sliced b (max 0 (min lo b.size)) (max 0 (min hi b.size)) 1)) :: news) → Q (.ref T) ⟨h', g, d', tk, os⟩) :
    wpAny (model prog w) A (subscriptTail (.Name nm np) (.Slice (some lo') (some hi') none p) (.ref S) (.ref h.objs.size)) Q E ⟨h.push (slObj (.int lo tl) (.int hi th)), g, d', tk, os⟩ := by
  have hS : (h.push (slObj (.int lo tl) (.int hi th))).get? S = some (baObj b) := Heap.get?_push_of_some _ (N _ hm).1
  have hI : (h.push (slObj (.int lo tl) (.int hi th))).get? h.objs.size = some (slObj (.int lo tl) (.int hi th)) := Heap.get?_push_size _ rfl
  unfold subscriptTail
  have L1 : Looks (model prog w) (h.push (slObj (.int lo tl) (.int hi th))) (getitemInPython (.ref S)) false := by
    unfold getitemInPython specialOf
    exact ((Ba.typ hS).andThen (Looks.of_pure Ba.slot_get.lookup)).andThen .now
  refine wpAny_bind (L1.here (s := ⟨h.push (slObj (.int lo tl) (.int hi th)), g, d', tk, os⟩) ?_)
  refine wpAny_bind (wpAny_operate' (ba_getItem (s := ⟨h.push (slObj (.int lo tl) (.int hi th)), g, d', tk, os⟩) hS hI h0 h1 hz ?_))
  refine wpAny_bind (wpAny_pure (wpAny_pure ?_))
  have k : ∀ a o, h.get? a = some o → ((h.push (slObj (.int lo tl) (.int hi th))).push (baObj (Builtin.Bytes.sliced b (max 0 (min lo b.size)) (max 0 (min hi b.size)) 1))).get? a = some o := fun a o e => Heap.get?_push_of_some _ (Heap.get?_push_of_some _ e)
  have F1 := F.push (slObj (.int lo tl) (.int hi th))
  have N1 : News h₀ L (h.push (slObj (.int lo tl) (.int hi th))) news := fun p hp => (N.push F (slObj (.int lo tl) (.int hi th))) p (List.mem_cons_of_mem _ hp)
  exact hq _ _ (F1.push _) (N1.push F1 (baObj _))
end
end Mine
end
section
open PySem PySem.W PyProof.Rows PySem.Calls
namespace Mine
local macro_rules | `(tactic| k_all) => `(tactic| first | exact all_neF (by assumption) (by first | exact Nat.le_refl _ | exact Nat.le_succ _ | exact Nat.le_add_right _ _ | omega) | exact all_ne (by assumption) (by first | exact Nat.le_refl _ | exact Nat.le_succ _ | omega) | exact off1_ne (by assumption))
local macro_rules | `(tactic| walk_at "call type:type") => `(tactic| first
  | (k_here; (with_reducible show wpAny _ _ (call (Value.type "type") [Value.bytes _ _]) _ _ _); refine call_type_of (Tx := "bytes") rfl (by decide) ?_)
  | (k_here; (with_reducible show wpAny _ _ (call (Value.type "type") [Value.int _ _]) _ _ _); refine call_type_of (Tx := "int") rfl (by decide) ?_))
local macro_rules | `(tactic| walk_at "call builtin:object.__new__") => `(tactic| (k_here; refine Stop.go ?_))
local macro_rules | `(tactic| walk_at "call type:bytearray") => `(tactic| (k_here; refine Stop.go ?_))
local macro_rules | `(tactic| walk_at "Exists") => `(tactic| (refine Stop.go ?_))
local macro_rules | `(tactic| walk_at "call ref") => `(tactic| (k_here; (with_reducible show wpAny _ _ (call (Value.ref 360) _) _ _ _); refine Stop.go ?_))
/-! BiN -/
section
open PySem PySem.W PyProof.Rows PySem.Calls
section
variable {w : World} {dp un : Nat} {cn : PySem.Str} {cs : Scope} {a : Addr} {ccd : Value} {cl : List (PySem.Str × Addr)} {outer : List Env} {A₀ : Around} {base h₀ : Heap} {L : Addr} {m mg mb : PySem.Str → Option Value} {mean : ExcName → Option Value} {loose : List PySem.Str} {s : Shared} {Q E : Value → Shared → Prop} {news : List (Addr × Obj)}
variable (B : Below A₀ base outer h₀) (F : Fr h₀ L s.heap m) (X : (hd.heap_39 w.params).In h₀) (N : News h₀ L s.heap news) (T : Top hd.view_39 loose mean mg mb h₀) (hk : cs.kind = .function)
include B F X N T hk
/-- a stream made over octets -/
theorem bio_c {b : Array UInt8} {t : Tok} (hdp : dp + 3 < recursionLimit) (hu : un + 24 < cLine) (hz : b.size ≤ sizeLine)
    (hret : ∀ (x dx bx : Addr) (t1 t2 t3 : Tok) (h' : Heap) (tk' : Nat), Fr h₀ L h' m → News h₀ L h' ((bx, baObj b) :: (x, instObj 360 dx) :: (dx, bioD w bx 0 t1 t2 t3) :: news) → (∀ p ∈ news, p.1 < dx) → @LT.lt Nat _ dx x → @LT.lt Nat _ x bx → Q (.ref x) { s with heap := h', toks := tk' }) :
    wpN (model PySem.Challenge.rw_ci0003_01.row.prog w) (ktrTop dp un (some []) cn cs L a ccd cl outer) (call (.ref 360) [.bytes b t]) Q E s := by
  revert X; k_fill; intro X
  refine make_bioN (X.keeps F.keep) ?_
  k_dflt (refine' cls_sm ?k1 ?k2 ?k3 ?k4 ?k5 ?k6 ?k7 ?_; (case k1 => k_asm); (case k2 => k_asm); (case k3 => k_is); (case k4 => k_is); (case k5 => k_is); (case k6 => k_is); (case k7 => k_handed); k_whole)
  refine wpAny_call ?_
  k_dflt (kp_kind "both"; (refine' kp_both ?k1 ?k2 ?k3 ?k4 ?k5 ?kA ?kF ?kK ?k6 ?k7 ?k8 ?kV ?kX ?kQ ?kM ?kN ?kD ?kR ?kP ?kS ?kT ?kB ?_ ?c2 ?c3 ?c4 ?c5; (case kA => exact rfl); (case kF => exact rfl); (case kK => assumption); (case k1 => k_asm); (case k2 => k_asm); (case k3 => k_asm); (case k4 => k_asm); (case k5 => k_asm); (case k6 => k_is); (case k7 => k_is); (case k8 => ktr_room); (case kV => kp_lit); (case kX => kp_lit); (case kQ => exact rfl); (case kM => exact rfl); (case kN => exact rfl); (case kD => kp_flats); (case kR => exact rfl); (case kP => exact rfl); (case kS => exact fun _ => rfl); (case kT => exact fun _ _ => rfl); (case kB => exact fun _ _ => locs rfl); (case c5 => decide); (case c2 => exact rfl); (case c3 => exact rfl); (case c4 => exact rfl); k_whole; intro C' D' o' g' L' h' tk' l1x l1 lo' hs' fs' FG' F1 N1 B1 X1 T1; (try k_lt l1x); (try k_lt2 l1); (try dsimp only); (try k_lift B1); (try k_fold)))
  k_steps
  unfold Stop
  refine bio_new F1 N1 (X1.keeps F1.keep) fun x dx h2 F2 N2 l2 l3 => ?_
  refine leaveK_ F2 N2 fun F3 N3 => ?_
  refine ⟨x, dx, rfl, (N3 _ (.head _)).1, X.keeps F3.keep, ?_⟩
  k_dflt (refine' code_defN ?k1 ?k2 ?k3 ?k4 ?k5 ?kA ?kF ?kK ?k6 ?k7 ?k8 ?k9 ?kB ?_ ?c2 ?c3 ?c4 ?c5; (case kA => exact rfl); (case kF => exact rfl); (case kK => assumption); (case k1 => k_asm); (case k2 => k_asm); (case k3 => k_asm); (case k4 => k_asm); (case k5 => k_asm); (case k6 => k_is); (case k7 => k_is); (case k8 => ktr_room); (case k9 => exact binds_K (by k_in) rfl (by k_is) rfl rfl rfl); (case c5 => decide); (case kB => exact locs rfl); (case c2 => exact rfl); (case c3 => exact rfl); (case c4 => exact rfl); k_whole; intro g' L' h4 FG4 F4 N4 B4 X4 T4; (try dsimp only); (try k_lift B4); (try k_fold))
  refine N_pre ?_
  k_steps
  refine N_cons (N_Assign_Attribute (N_IfExp (wpN_lift ?_)))
  k_steps
  refine N_Call_Name ?_
  k_steps
  refine N_callWith_p keeps_ty ?_
  k_steps
  · trivial
  rename Fr _ _ _ _ => F4
  refine ba_call1 hz rfl fun h5 hk5 hb5 hlt5 => ?_
  have F5 := led_grow F4 hk5
  have N5 := led_add F4 N4 hk5 hb5
  have l5 := led_lt N4
  clear hk5 hb5 hlt5
  dsimp only at F5 N5 l5 ⊢
  generalize h4.objs.size = bx at N5 l5 ⊢
  k_lt l2
  k_lt l5
  have l3 := ltN l3
  obtain ⟨l2a, l2b, l2c⟩ := l2
  obtain ⟨l5a, l5b, l5c, l5d, l5e⟩ := l5
  k_steps
  refine N_pre ?_
  k_steps
  refine N_nil ?_
  k_steps
  rename_i F9 N9 T9 X9
  refine hret x dx bx (tk + 1) (tk + 2 + 1 + 1) (tk + 2) _ _ F9 (led_sub N9 fun p hp => ?_) (fun p hp => ?_) l3 l5a
  · rcases List.mem_cons.mp hp with rfl | hp
    · exact .head _
    rcases List.mem_cons.mp hp with rfl | hp
    · exact .tail _ (.head _)
    rcases List.mem_cons.mp hp with rfl | hp
    · exact .tail _ (.tail _ (.head _))
    · exact .tail _ (.tail _ (.tail _ (.tail _ (.tail _ hp))))
  · exact Nat.lt_trans (l1x p hp) l2b
end
end
section
local macro_rules | `(tactic| walk_at "True") => `(tactic| trivial)
theorem anew_BiN0 : True := by
  w_top off
  walk1
end
/-! BiN0 -/
section
open PySem PySem.W PyProof.Rows PySem.Calls
section
variable {w : World} {dp un : Nat} {cn : PySem.Str} {cs : Scope} {a : Addr} {ccd : Value} {cl : List (PySem.Str × Addr)} {outer : List Env} {A₀ : Around} {base h₀ : Heap} {L : Addr} {m mg mb : PySem.Str → Option Value} {mean : ExcName → Option Value} {loose : List PySem.Str} {s : Shared} {Q E : Value → Shared → Prop} {news : List (Addr × Obj)}
variable (B : Below A₀ base outer h₀) (F : Fr h₀ L s.heap m) (X : (hd.heap_39 w.params).In h₀) (N : News h₀ L s.heap news) (T : Top hd.view_39 loose mean mg mb h₀) (hk : cs.kind = .function)
include B F X N T hk
/-- an empty stream -/
theorem bio_c0 (hdp : dp + 3 < recursionLimit) (hu : un + 24 < cLine) 
    (hret : ∀ (x dx bx : Addr) (t1 t2 t3 : Tok) (h' : Heap) (tk' : Nat), Fr h₀ L h' m → News h₀ L h' ((bx, baObj #[]) :: (x, instObj 360 dx) :: (dx, bioD w bx 0 t1 t2 t3) :: news) → (∀ p ∈ news, p.1 < dx) → @LT.lt Nat _ dx x → @LT.lt Nat _ x bx → Q (.ref x) { s with heap := h', toks := tk' }) :
    wpN (model PySem.Challenge.rw_ci0003_01.row.prog w) (ktrTop dp un (some []) cn cs L a ccd cl outer) (call (.ref 360) []) Q E s := by
  revert X; k_fill; intro X
  refine make_bioN (X.keeps F.keep) ?_
  k_dflt (refine' cls_sm ?k1 ?k2 ?k3 ?k4 ?k5 ?k6 ?k7 ?_; (case k1 => k_asm); (case k2 => k_asm); (case k3 => k_is); (case k4 => k_is); (case k5 => k_is); (case k6 => k_is); (case k7 => k_handed); k_whole)
  refine wpAny_call ?_
  k_dflt (kp_kind "both"; (refine' kp_both ?k1 ?k2 ?k3 ?k4 ?k5 ?kA ?kF ?kK ?k6 ?k7 ?k8 ?kV ?kX ?kQ ?kM ?kN ?kD ?kR ?kP ?kS ?kT ?kB ?_ ?c2 ?c3 ?c4 ?c5; (case kA => exact rfl); (case kF => exact rfl); (case kK => assumption); (case k1 => k_asm); (case k2 => k_asm); (case k3 => k_asm); (case k4 => k_asm); (case k5 => k_asm); (case k6 => k_is); (case k7 => k_is); (case k8 => ktr_room); (case kV => kp_lit); (case kX => kp_lit); (case kQ => exact rfl); (case kM => exact rfl); (case kN => exact rfl); (case kD => kp_flats); (case kR => exact rfl); (case kP => exact rfl); (case kS => exact fun _ => rfl); (case kT => exact fun _ _ => rfl); (case kB => exact fun _ _ => locs rfl); (case c5 => decide); (case c2 => exact rfl); (case c3 => exact rfl); (case c4 => exact rfl); k_whole; intro C' D' o' g' L' h' tk' l1x l1 lo' hs' fs' FG' F1 N1 B1 X1 T1; (try k_lt l1x); (try k_lt2 l1); (try dsimp only); (try k_lift B1); (try k_fold)))
  k_steps
  unfold Stop
  refine bio_new F1 N1 (X1.keeps F1.keep) fun x dx h2 F2 N2 l2 l3 => ?_
  refine leaveK_ F2 N2 fun F3 N3 => ?_
  refine ⟨x, dx, rfl, (N3 _ (.head _)).1, X.keeps F3.keep, ?_⟩
  k_dflt (refine' code_defN ?k1 ?k2 ?k3 ?k4 ?k5 ?kA ?kF ?kK ?k6 ?k7 ?k8 ?k9 ?kB ?_ ?c2 ?c3 ?c4 ?c5; (case kA => exact rfl); (case kF => exact rfl); (case kK => assumption); (case k1 => k_asm); (case k2 => k_asm); (case k3 => k_asm); (case k4 => k_asm); (case k5 => k_asm); (case k6 => k_is); (case k7 => k_is); (case k8 => ktr_room); (case k9 => exact binds_K (by k_in) rfl (by k_is) rfl rfl rfl); (case c5 => decide); (case kB => exact locs rfl); (case c2 => exact rfl); (case c3 => exact rfl); (case c4 => exact rfl); k_whole; intro g' L' h4 FG4 F4 N4 B4 X4 T4; (try dsimp only); (try k_lift B4); (try k_fold))
  refine N_pre ?_
  k_steps
  refine N_cons (N_Assign_Attribute (N_IfExp (wpN_lift ?_)))
  k_steps
  refine N_Call_Name ?_
  k_steps
  refine N_callWith_0 keeps_ty trivial ?_
  rename Fr _ _ _ _ => F4
  refine ba_call0 rfl fun h5 hk5 hb5 hlt5 => ?_
  have F5 := led_grow F4 hk5
  have N5 := led_add F4 N4 hk5 hb5
  have l5 := led_lt N4
  clear hk5 hb5 hlt5
  dsimp only at F5 N5 l5 ⊢
  generalize h4.objs.size = bx at N5 l5 ⊢
  k_lt l2
  k_lt l5
  have l3 := ltN l3
  obtain ⟨l2a, l2b, l2c⟩ := l2
  obtain ⟨l5a, l5b, l5c, l5d, l5e⟩ := l5
  k_steps
  refine N_pre ?_
  k_steps
  refine N_nil ?_
  k_steps
  rename_i F9 N9 T9 X9
  refine hret x dx bx (tk + 1) (tk + 2 + 1 + 1) (tk + 2) _ _ F9 (led_sub N9 fun p hp => ?_) (fun p hp => ?_) l3 l5a
  · rcases List.mem_cons.mp hp with rfl | hp
    · exact .head _
    rcases List.mem_cons.mp hp with rfl | hp
    · exact .tail _ (.head _)
    rcases List.mem_cons.mp hp with rfl | hp
    · exact .tail _ (.tail _ (.head _))
    · exact .tail _ (.tail _ (.tail _ (.tail _ (.tail _ hp))))
  · exact Nat.lt_trans (l1x p hp) l2b
end
end
end Mine
end
/-! Star -/
section
open PySem PySem.W PyProof.Rows PySem.Calls PyProof.V PySem.Spec
namespace Mine
abbrev tupE : Obj := { cls := .type "tuple", data := .seq #[] }
section
variable {prog : Program} {w : World} {A : Around} {s : Shared} {E : Value → Shared → Prop}
theorem dict_sub : isSubtype (.type "dict") (.type "dict") = pure true := by rw [isSubtype_type]; kernel_rfl
theorem merge_empty {d D : Addr} {Q : Unit → Shared → Prop} (hD : s.heap.get? D = some (dictOf [] 0)) (hd : s.heap.get? d = some { cls := .type "dict", data := .dict #[] }) (hm : (D == sysModules) = false) (h : Q () s) :
    wpAny (model prog w) A (mergeMapping d (.ref D) true) Q E s := by
  have L0 : Looks (model prog w) s.heap (typeOf (.ref D)) (.type "dict") := (Looks.ld (part := none) hD).andThen .now
  have L1 : Looks (model prog w) s.heap (isInstance (.ref D) (.type "dict")) true := by
    unfold isInstance
    exact L0.andThen (Looks.of_pure dict_sub)
  have L2 : Looks (model prog w) s.heap (specialOf (.ref D) "__iter__") (some (.builtin "dict.__iter__")) := by
    unfold specialOf
    exact L0.andThen (Looks.of_pure F.slot_dict_iter.lookup)
  unfold mergeMapping
  refine wpAny_bind (L1.here ?_)
  refine bm_if_true rfl ?_
  refine wpAny_bind (L2.here ?_)
  refine wpAny_bind (wpAny_pure ?_)
  rw [show (some (Value.builtin "dict.__iter__") == some (Value.builtin "dict.__iter__")) = true by decide]
  refine bm_if_false hm ?_
  refine wpAny_bind (wpAny_dictEntries hd rfl ?_)
  refine bm_if_true rfl ?_
  refine wpAny_bind (wpAny_dictEntries hD rfl ?_)
  refine wpAny_bind (wpAny_pure ?_)
  refine wpAny_bind (wpAny_dictEntries hD rfl ?_)
  refine wpAny_bind (wpAny_dictEpoch hD rfl ?_)
  exact wpAny_bind (wpAny_pure (wpAny_pure h))
theorem merged_one {f : Value} {z : Sem Value} {D : Addr} {Q : Addr → Shared → Prop}
    (h : wpAny (model prog w) A z (fun dv s₃ => dv = .ref D ∧ (D == sysModules) = false ∧ s₃.heap = s.heap.push { cls := .type "dict", data := .dict #[] } ∧ (s.heap.push { cls := .type "dict", data := .dict #[] }).get? D = some (dictOf [] 0) ∧ Q s.heap.objs.size s₃) E { s with heap := s.heap.push { cls := .type "dict", data := .dict #[] } }) :
    wpAny (model prog w) A (mergedKeywords f [(none, z)]) Q E s := by
  unfold mergedKeywords
  refine wpAny_bind (wpAny_alloc ?_)
  refine wpAny_bind ?_
  refine wpAny_holding ?_
  refine wpAny_bind ?_
  rw [List.forIn_cons]
  refine wpAny_bind ?_
  refine wpAny_bind (wpAny_pure ?_)
  refine wpAny_bind (wpAny_mono h (fun dv s₃ h₃ => ?_) fun _ _ e => e)
  obtain ⟨rfl, hm, hh, hD, hQ⟩ := h₃
  have hd : s₃.heap.get? s.heap.objs.size = some { cls := .type "dict", data := .dict #[] } := by rw [hh]; exact Heap.get?_push_size _ rfl
  refine wpAny_bind (wpAny_onRaise (wpAny_holding (wpAny_tryCatch (wpAny_onRaise (merge_empty (by rw [hh]; exact hD) hd hm ?_)))))
  refine wpAny_pure ?_
  dsimp only
  rw [List.forIn_nil]
  refine wpAny_pure ?_
  refine wpAny_bind (wpAny_pure ?_)
  exact wpAny_pure (wpAny_pure hQ)
theorem star_args {f : Value} {x y z : Sem Value} {C D : Addr} {Q : Args → Shared → Prop}
    (h : wpAny (model prog w) A x (fun v s₁ => wpAny (model prog w) A y (fun cv s₂ => cv = .ref C ∧ s₂.heap.get? C = some tupE ∧ ∀ h', (∀ b o, s₂.heap.get? b = some o → h'.get? b = some o) →
      wpAny (model prog w) A z (fun dv s₃ => dv = .ref D ∧ (D == sysModules) = false ∧ s₃.heap = h' ∧ h'.get? D = some (dictOf [] 0) ∧ Q ⟨[v], []⟩ s₃) E { s₂ with heap := h' }) E s₁) E s) :
    wpAny (model prog w) A (evalArgs f true [(false, x), (true, y)] [(none, z)]) Q E s := by
  unfold evalArgs
  refine wpAny_bind (m := spliced [(false, x), (true, y)]) ?_
  refine spliced_cons (wpAny_mono h (fun v s₁ h₁ => ?_) fun _ _ e => e)
  unfold spliced
  refine wpAny_bind (wpAny_mono h₁ (fun cv s₂ h₂ => ?_) fun _ _ e => e)
  obtain ⟨rfl, hC, hz⟩ := h₂
  have L2 : Looks (model prog w) s₂.heap (specialOf (.ref C) "__iter__") (some (.builtin "tuple.__iter__")) := by
    unfold specialOf
    exact ((Looks.ld (part := none) hC).andThen .now).andThen (Looks.of_pure F.slot_tuple_iter.lookup)
  have L3 : Looks (model prog w) s₂.heap (notIterableAtAll (.ref C)) false := by
    unfold notIterableAtAll
    exact L2.andThen .now
  refine bm_if_true rfl ?_
  refine wpAny_bind (L3.here ?_)
  refine bm_if_false rfl ?_
  refine wpAny_bind (wpAny_collect_seq C (.inr rfl) hC rfl rfl (fun h' hk => ?_) (by decide))
  refine wpAny_bind (wpAny_holding (spliced_nil (wpAny_pure ?_)))
  refine wpAny_bind (wpAny_pure ?_)
  refine wpAny_holding ?_
  refine bm_if_false rfl ?_
  refine wpAny_bind (merged_one (D := D) (wpAny_mono (hz _ fun b o e => Heap.get?_push_of_some _ (hk b o e)) (fun dv s₃ h₃ => ?_) fun _ _ e => e))
  obtain ⟨rfl, hm, hh, hD, hQ⟩ := h₃
  refine ⟨rfl, hm, hh, hD, ?_⟩
  refine wpAny_bind (wpAny_pure ?_)
  refine wpAny_bind (wpAny_holding ?_)
  unfold keywordsIn
  have hd : s₃.heap.get? h'.objs.size = some { cls := .type "dict", data := .dict #[] } := by rw [hh]; exact Heap.get?_push_size _ rfl
  refine wpAny_bind (wpAny_dictEntries hd rfl ?_)
  exact wpAny_bind (wpAny_pure (wpAny_pure (wpAny_pure hQ)))
end
section
variable {prog : Program} {w : World} {A : Around} {s : Shared} {E : Value → Shared → Prop} {env : Env} {h₀ : Heap} {L : Addr}
theorem led_keeps {h h' : Heap} {m : PySem.Str → Option Value} {news : List (Addr × Obj)} (F : Fr h₀ L h m) (N : News h₀ L h news) (k : ∀ b o, h.get? b = some o → h'.get? b = some o) : Fr h₀ L h' m ∧ News h₀ L h' news :=
  ⟨⟨F.ns.at' fun o e => k _ o e, fun b o e => k b o (F.keep b o e), F.above⟩, N.grown k⟩
/-- a call with one argument, an empty *args and an empty **kwargs -/
theorem N_star {P : Heap → Prop} {f : Value} {pos p2 p3 : Pos} {first : List Value} {e1 e2 e3 : Expr} {Q : Value → Shared → Prop} {C D : Addr}
    (hk : ∀ h, P h → ∃ k, Looks (model prog w) h (keeperOf f) k)
    (h : wpAny (model prog w) A (eval e1 env) (fun v s₁ => wpAny (model prog w) A (eval e2 env) (fun cv s₂ => cv = .ref C ∧ s₂.heap.get? C = some tupE ∧ ∀ h', (∀ b o, s₂.heap.get? b = some o → h'.get? b = some o) →
      wpAny (model prog w) A (eval e3 env) (fun dv s₃ => dv = .ref D ∧ (D == sysModules) = false ∧ s₃.heap = h' ∧ h'.get? D = some (dictOf [] 0) ∧ P s₃.heap ∧ wpN (model prog w) A (call f (first ++ [v])) Q E s₃) E { s₂ with heap := h' }) E s₁) E s)
    (he : starEach [e1, .Starred e2 p2] env = [(false, eval e1 env), (true, eval e2 env)] := by rfl) :
    wpN (model prog w) A (callWith pos f first (backTo pos (starEach [e1, .Starred e2 p2] env)) (backToKw pos (keywordEach [⟨none, e3, p3⟩] env))) Q E s := by
  refine N_callWith hk ?_
  rw [he]
  show wpAny _ _ (evalArgs f true [(false, eval e1 env), (true, (do let v ← eval e2 env; standAt pos; pure v))] [(none, (do let v ← eval e3 env; standAt pos; pure v))]) _ _ _
  refine star_args (C := C) (D := D) (wpAny_mono h (fun v s₁ h₁ => ?_) fun _ _ e => e)
  refine wpAny_bind (wpAny_mono h₁ (fun cv s₂ h₂ => wpAny_bind (wpAny_standAt (wpAny_pure ?_))) fun _ _ e => e)
  obtain ⟨rfl, hC, hz⟩ := h₂
  refine ⟨rfl, hC, fun h' hk' => ?_⟩
  refine wpAny_bind (wpAny_mono (hz h' hk') (fun dv s₃ h₃ => wpAny_bind (wpAny_standAt (wpAny_pure ?_))) fun _ _ e => e)
  obtain ⟨rfl, hm, hh, hD, hP, hQ⟩ := h₃
  exact ⟨rfl, hm, hh, hD, hP, hQ⟩
end
section
variable {prog : Program} {w : World} {A A₀ : Around} {s : Shared} {K : Frag} {L : Addr} {h₀ base : Heap} {m mg mb : PySem.Str → Option Value} {news : List (Addr × Obj)} {p : Program} {loose : List PySem.Str} {mean : ExcName → Option Value} {R : Result → Shared → Prop}
variable {env : Env} {outer : List Env} {name qual : PySem.Str} {params : Arguments} {body : List Stmt} {scope : Scope} {dV kV doc pm cdv ct oc : Value} {an od : Option Addr} {osl : Array (Option Value)} {f : Addr} {args : Args} {binds : List (PySem.Str × Value)}
theorem code_starN {vs : List Value} {nm nr : PySem.Str} {front : List (PySem.Str × Value)} {g₁ : Addr → Sem (List (PySem.Str × Value))} {g₂ : Addr → Addr → Sem (List (PySem.Str × Value))}
    (B : Below A₀ base outer h₀) (F : Fr h₀ L s.heap m) (X₀ : K.In h₀) (N : News h₀ L s.heap news) (T : Top p loose mean mg mb h₀) (hA : A.frames = some (env :: outer)) (hf : env.frame = some L) (hke : env.scope.kind = .function)
    (ho : K.lookup f = some ⟨oc, od, .func (fnOf name qual params body scope dV kV doc pm an cdv ct), osl⟩) (hcd : codeIn K cdv qual = true) (hroom : A.depth < recursionLimit)
    (_hv : args.pos.drop (params.posonlyargs.length + params.args.length) = vs) (_hnr : params.vararg.map (·.arg) = some nr) (_hnm : params.kwarg.map (·.arg) = some nm)
    (_hfr : peek K ⟨prog, w.params⟩ (bindArgs (fnCut (fnOf name qual params body scope dV kV doc pm an cdv ct)) (argsCut params args)) = some front)
    (hp : peekA K ⟨prog, w.params⟩ (bindArgs (fnOf name qual params body scope dV kV doc pm an cdv ct) args) = some (({ cls := .type "tuple", data := .seq vs.toArray } : Obj), g₁))
    (hp₂ : ∀ D, peekA K ⟨prog, w.params⟩ (g₁ D) = some (dictOf [] 0, g₂ D))
    (hk₂ : ∀ C D, g₂ C D = pure (front ++ [(nr, Value.ref C)] ++ [(nm, Value.ref D)]))
    (hloc : ∀ C D, ∀ y ∈ front ++ [(nr, Value.ref C)] ++ [(nm, Value.ref D)], scope.names.lookup y.1 = some .local)
    (h : ∀ C D g L' h₁ tk, (∀ p ∈ news, p.1 < C) → C < D → (D == sysModules) = false → Fr h₀ L g m → Fr g L' h₁ (fun y => (front ++ [(nr, Value.ref C)] ++ [(nm, Value.ref D)]).reverse.lookup y) →
      News g L' h₁ ((D, dictOf [] 0) :: (C, ({ cls := .type "tuple", data := .seq vs.toArray } : Obj)) :: news) → Below A base (env :: outer) g → K.In g → Top p loose mean mg mb g →
      wpN (model prog w) (A.deeper (envOf qual scope L' f cdv)) (execs body (envOf qual scope L' f cdv))
        (fun fl s' => LeaveK h₀ L m g R (match fl with | .ret v => v | _ => .none) s')
        (fun e s' => wpAny (model prog w) (A.deeper (envOf qual scope L' f cdv)) (leaving (envOf qual scope L' f cdv) e) (fun _ s'' => R (.error e) s'') (fun e' s'' => R (.error e') s'') s')
        { s with heap := h₁, toks := tk })
    (hco : scope.isCoroutine = false) (hgen : scope.isGenerator = false) (hk : scope.kind = .function)
    (hcell : ∀ x ∈ scope.names, x.2 ≠ .cell) : codeN (model prog w) A (.call (.ref f) args) R s :=
  code_bothN B F X₀ N T hA hf hke ho hcd hroom hp hp₂ hk₂ hloc h hco hgen hk hcell
end
section
variable {prog : Program} {w : World} {A : Around} {s : Shared} {E : Value → Shared → Prop} {env : Env} {R : Result → Shared → Prop}
theorem N_Call_Attr {o : Expr} {name : PySem.Str} {apos pos : Pos} {args : List Expr} {kws : List Keyword} {Q : Value → Shared → Prop}
    (h : wpAny (model prog w) A (eval o env) (fun ov s₁ => wpAny (model prog w) A (getAttr ov name true) (fun f s₂ => wpN (model prog w) A (callWith pos f [] (backTo pos (starEach args env)) (backToKw pos (keywordEach kws env))) Q E s₂) E s₁) E s)
    (he : eval (.Call (.Attribute o name apos) args kws pos) env = (do
      let ov ← eval o env
      standAt apos.atName
      let (f, first) ← holding [ov] (do pure (← getAttr ov name true, []))
      callWith pos f first (backTo pos (starEach args env)) (backToKw pos (keywordEach kws env))) := by rfl) :
    wpN (model prog w) A (eval (.Call (.Attribute o name apos) args kws pos) env) Q E s := by
  rw [he]
  refine wpN_then (wpAny_mono h (fun ov s₁ h₁ => wpN_at (wpN_then (wpAny_holding (wpAny_bind (wpAny_mono h₁ (fun f s₂ h₂ => wpAny_pure ?_) fun _ _ x => x))))) fun _ _ x => x)
  exact h₂
theorem meth_callN {p : Addr} {f : Addr} {self : Value} {pos : List Value} {kw : List (PySem.Str × Value)} (ho : s.heap.get? p = some (methodObj (.ref f) self))
    (h : codeN (model prog w) A (.call (.ref f) ⟨self :: pos, kw⟩) R s) : codeN (model prog w) A (.call (.ref p) ⟨pos, kw⟩) R s := by
  obtain ⟨hh, g, dr, t, os⟩ := s
  refine codeN_of_tree rfl (wpN_lift ?_)
  show wpAny _ _ (callAny (.ref p) _) _ _ _
  dsimp only at ho
  refine nd_load ho ?_
  exact wpAny_pure ⟨rfl, h⟩
theorem keeps_MN {M : Model} {K : Frag} {q f : Addr} {self : Value} (hf : fnIn K f = true) (h : Heap) (X : MethP K q f self h) : ∃ k, Looks M h (keeperOf (.ref q)) k := by
  obtain ⟨k, _, l⟩ := keeps_M (M := M) hf h X
  exact ⟨k, l⟩
end
end Mine
end
/-! Has -/
section
open PySem PySem.W PyProof.Rows PySem.Calls PyProof.V PySem.Spec
namespace Mine
namespace Hs
theorem kind : builtinKind "hasattr" = none := by decide +kernel
theorem plain : plainId "hasattr" = true := by decide +kernel
theorem entry : entryFor table "hasattr" = some Builtin.«hasattr» := entryFor_of_tree (by kernel_rfl)
theorem args (a b : Value) : argsOk "hasattr" ⟨[a, b], []⟩ := by unfold argsOk; kernel_rfl
end Hs
section
variable {prog : Program} {w : World} {A : Around} {E : Value → Shared → Prop} {s : Shared} {K : Frag} {x C f L : Addr} {ox : Obj} {od : Obj} {name : PySem.Str} {h₀ : Heap} {m : PySem.Str → Option Value} {news : List (Addr × Obj)} {es : List DictEntry} {n : Nat} {Q : Value → Shared → Prop} {t : Tok}
theorem has_bind {g a : Value} {Q : Value → Shared → Prop} (X : K.In s.heap) (I : InstAt s.heap x ox C (some od)) (hga : findIn K (.ref C) "__getattribute__" = some (some (.builtin "object.__getattribute__")))
    (hf : findObj K C (some od) name = some (.bind g a)) (hk : findIn K (.ref C) "__getattr__" = some none)
    (h : wpAny (model prog w) A.in1 (call g [a, .ref x, .ref C]) (fun v s' => wpAny (model prog w) A (handedOut v) Q E s') (fun e s' => wpAny (model prog w) A (noteIf false (.ref x) (.str name t) e) (fun _ s'' => E e s'') E s') s) :
    wpAny (model prog w) A (getAttrBy (.ref x) (.str name t) false) Q E s := by
  obtain ⟨hh, gg, d, tk, os⟩ := s
  have L0 := I.type (M := model prog w)
  have L1 := looks_findIn (M := model prog w) X hga
  have L3 := looks_find (M := model prog w) X I hf
  have L2 := looks_findIn (M := model prog w) X hk
  unfold getAttrBy
  refine wpAny_holding (wpAny_bind (L0.at (wpAny_bind (L1.at ?_))))
  show wpAny _ _ (getAttrEveryday _ _ _) _ _ _
  refine wpAny_bind (wpAny_onRaise (wpAny_runValue (codeAny_builtin F.plainObj_entry_getattr_hooked (wpAny_mono (Q := fun fin s' => match fin with | .done (.ret v) => wpAny (model prog w) A (handedOut v) Q E s' | _ => False) (E := fun e s' => wpAny (model prog w) A (noteIf false (.ref x) (.str name t) e) (fun _ s'' => E e s'') E s') ?_ (fun fin s' z => ?_) fun _ _ z => z))))
  · refine wpAny_bind (wpAny_pure (wpAny_bind (L0.at (wpAny_bind (L3.at (wpAny_bind (L2.at ?_)))))))
    show wpAny _ _ (holding [a] (call g [a, .ref x, .ref C]) >>= ret) _ _ _
    exact wpAny_bind (wpAny_holding (wpAny_mono h (fun v s' z => wpAny_pure z) fun _ _ z => z))
  · rcases fin with (_ | _ | _ | _) | _ <;> first | exact z | exact z.elim
theorem has_meth (F : Fr h₀ L s.heap m) (X₀ : K.In h₀) (N : News h₀ L s.heap news) (I : InstAt s.heap x ox C (some (dictOf es n))) (hg : plainGet K C name = true) (hh : hasDictIn K C = true) (ha : findIn K (.ref C) name = some (some (.ref f))) (hf : isFn K (.ref f) = true)
    (hgf : specialIn K (.ref f) "__get__" = some (some (.builtin "function.__get__"))) (ht : takesIn K (.ref f) = some false) (hc : copiedNames.contains name = false) (hl : getL name es = some none) (hm : mroIn K C (.type "module") = some false)
    (h : ∀ h', Fr h₀ L h' m → News h₀ L h' news → Q (.bool true) { s with heap := h' }) : wpAny (model prog w) A (call (.builtin "hasattr") [.ref x, .str name t]) Q E s := by
  refine Calls.call_function_entry Hs.kind Hs.plain Hs.entry (Hs.args _ _) ?_
  unfold Builtin.«hasattr»
  refine wpAny_bind (wpAny_of_eq (a := [.ref x, .str name t]) (by first | rfl | kernel_rfl) ?_)
  dsimp only
  refine wpAny_bind (wpAny_of_eq (a := ()) (by first | rfl | kernel_rfl) ?_)
  refine bm_if_false rfl ?_
  refine wpAny_bind (I.type.here ?_)
  dsimp only
  have L5 := looks_mroIn (M := model prog w) (X₀.keeps F.keep) hm
  refine wpAny_bind ?_
  show wpAny _ _ (isInstance (.ref x) (.type "module") >>= fun b => if (!b) = true then pure 0 else _) _ _ _
  have Li : Looks (model prog w) s.heap (isInstance (.ref x) (.type "module")) false := by
    unfold isInstance
    exact I.type.andThen L5
  refine wpAny_bind (Li.here ?_)
  refine bm_if_true rfl ?_
  refine wpAny_pure ?_
  refine bm_if_false rfl ?_
  refine wpAny_bind ?_
  unfold getAttrBy?
  refine wpAny_bind (wpAny_attempt ?_)
  refine has_bind (X₀.keeps F.keep) I (plainGet_of hg).1 (findObj_fn hh ha hgf ht hc (by show lookIn name (dictOf es n) = _; rw [lookIn_dict, hl])) (plainGet_of hg).2
    (wpAny_call (fn_get (X₀.keeps F.keep) (beq_iff_eq.mp hf) (handed_on rfl ?_)))
  refine wpAny_pure ?_
  refine bm_if_false rfl ?_
  refine wpAny_pure ⟨_, rfl, ?_⟩
  exact h _ (F.push _) (fun p hp => (N.push F (methodObj (.ref f) (.ref x))) p (List.mem_cons_of_mem _ hp))
end
end Mine
end
/-! Cmp -/
section
open PySem PySem.W PyProof.Rows PySem.Calls PyProof.V PySem.Spec
namespace Mine
section
variable {prog : Program} {w : World} {A A₀ : Around} {E : Value → Shared → Prop} {s : Shared} {K : Frag} {x C L f : Addr} {h₀ : Heap} {m : PySem.Str → Option Value} {ox : Obj} {od : Option Obj} {name : PySem.Str} {b : Value}
theorem N_ifBound {args : List Value} {Q : Option Value → Shared → Prop} (X : K.In s.heap) (I : InstAt s.heap x ox C od) (hs : findIn K (.ref C) name = some (some (.ref f))) (hf : isFn K (.ref f) = true)
    (h : wpN (model prog w) A (call (.ref f) (.ref x :: args)) (fun v => Q (some v)) E s) : wpN (model prog w) A (callSpecialIfBound? (.ref x) name args) Q E s := by
  unfold callSpecialIfBound?
  refine wpN_holding ?_
  refine wpN_then (m := bindSpecialIfBound? (.ref x) name) (wpAny_mono (Q := fun r s' => r = some (.ref f, [.ref x]) ∧ s' = s) (E := E) ?_ (fun r s' z => ?_) fun _ _ e => e)
  · unfold bindSpecialIfBound?
    refine wpAny_bind (wpAny_bind (I.type.here ((looks_findIn X hs).here ?_)))
    refine wpAny_bind (wpAny_askSetting (wpAny_ite ?_))
    split
    · exact wpAny_bind ((bind_fn X _ (beq_iff_eq.mp hf)).here (wpAny_pure ⟨rfl, rfl⟩))
    · exact wpAny_tryCatch (wpAny_bind ((bind_fn X _ (beq_iff_eq.mp hf)).here (wpAny_pure ⟨rfl, rfl⟩)))
  · obtain ⟨rfl, rfl⟩ := z
    exact wpN_bindm h fun v s' h' => wpN_pure h'
/-- two objects of one class compared by its own def -/
theorem N_cmp {op : CmpOp} {Q : Value → Shared → Prop} (hu : A.units < cLine) (F : Fr h₀ L s.heap m) (X₀ : K.In h₀) (I : InstAt s.heap x ox C od) (hb : Looks (model prog w) s.heap (typeOf b) (.ref C))
    (hs : findIn K (.ref C) (cmpInfo op).2.1 = some (some (.ref f))) (hf : isFn K (.ref f) = true)
    (h : wpN (model prog w) A (call (.ref f) [.ref x, b]) (fun v s' => v ≠ .notImplemented ∧ Q v s') E s) : wpN (model prog w) A (richCompare op (.ref x) b) Q E s := by
  have X := X₀.keeps F.keep
  have one : wpN (model prog w) A (tryCompare (.ref x) (cmpInfo op).2.1 b) (fun r s' => ∃ v, r = some v ∧ Q v s') E s := by
    unfold tryCompare
    refine wpN_bindm (N_ifBound X I hs hf (Q := fun r s' => ∃ v, r = some v ∧ v ≠ .notImplemented ∧ Q v s') (wpN_mono h (fun v s' hv => ⟨v, rfl, hv⟩) fun _ _ e => e)) ?_
    rintro _ s' ⟨v, rfl, hn, hq⟩
    cases v <;> first | exact absurd rfl hn | exact wpN_pure ⟨_, rfl, hq⟩
  unfold richCompare
  simp only [oneThing_ref]
  refine wpN_holding (wpN_then (wpAny_cRoomFor hu ?_))
  refine wpN_then (I.type.here (wpN_then (hb.here ?_)))
  rw [if_neg (by simp)]
  refine wpN_then (wpAny_pure ?_)
  simp only [Bool.false_eq_true, if_false]
  refine wpN_bindm one ?_
  rintro _ s' ⟨v, rfl, hq⟩
  exact wpN_pure hq
theorem N_cmpNe {a b : Value} {Q : Value → Shared → Prop} (h : wpN (model prog w) A (richCompare .NotEq a b) Q E s) : wpN (model prog w) A (compareOp .NotEq a b) Q E s := h
theorem N_cmpEq {a b : Value} {Q : Value → Shared → Prop} (h : wpN (model prog w) A (richCompare .Eq a b) Q E s) : wpN (model prog w) A (compareOp .Eq a b) Q E s := h
end
end Mine
end
/-! Sli -/
section
open PySem PySem.W PyProof.Rows PySem.Calls
namespace Mine
theorem pick_take {α : Type} (l : List α) (lo : Nat) : ∀ n, (List.range n).filterMap (fun k => l[lo + k]?) = (l.drop lo).take n
  | 0 => by simp
  | n + 1 => by
    rw [List.range_succ, List.filterMap_append, pick_take l lo n, List.take_add_one, List.getElem?_drop]
    rfl
theorem sliced_eq (b : Array UInt8) (lo hi : Nat) : Builtin.Bytes.sliced b (lo : Int) (hi : Int) 1 = ((b.toList.drop lo).take (hi - lo)).toArray := by
  unfold Builtin.Bytes.sliced sliceRange
  congr 1
  have hc : (if (1 : Int) > 0 then if (lo : Int) < (hi : Int) then ((hi : Int) - (lo : Int) + 1 - 1) / 1 else 0
            else if (lo : Int) > (hi : Int) then ((lo : Int) - (hi : Int) - 1 - 1) / -1 else 0).toNat = hi - lo := by
    rw [if_pos (by decide)]
    split
    · rw [Int.ediv_one]; omega
    · omega
  dsimp only
  rw [hc, List.filterMap_map, ← pick_take]
  congr 1
  funext k
  show b[((lo : Int) + 1 * (k : Int)).toNat]? = b.toList[lo + k]?
  rw [show ((lo : Int) + 1 * (k : Int)).toNat = lo + k by omega, Array.getElem?_toList]
theorem sliced_size (b : Array UInt8) (lo hi : Nat) : (Builtin.Bytes.sliced b (lo : Int) (hi : Int) 1).size ≤ b.size := by
  rw [sliced_eq]
  simp only [List.size_toArray, List.length_take, List.length_drop, Array.length_toList]
  omega
end Mine
end
/-! Lib4 -/
section
open PySem PySem.W PyProof.Rows PySem.Calls
namespace Mine
section
variable {prog : Program} {w : World} {A : Around} {E : Value → Shared → Prop} {s : Shared} {env : Env} {h₀ : Heap}
/-- the end of a turn of a while loop -/
def WEnd (h₀ : Heap) (L : Addr) (Q : Flow → Shared → Prop) (J : (PySem.Str → Option Value) → List (Addr × Obj) → Prop) (s : Shared) (f : Flow) (s₃ : Shared) : Prop := match f with
  | .brk => Q .next s₃
  | .ret v => Q (.ret v) s₃
  | _ => ∃ h' tk' m₂ news₂, s₃ = { s with heap := h', toks := tk' } ∧ Fr h₀ L h' m₂ ∧ News h₀ L h' news₂ ∧ J m₂ news₂
theorem WEnd.next {L : Addr} {Q : Flow → Shared → Prop} {J : (PySem.Str → Option Value) → List (Addr × Obj) → Prop} {h' : Heap} {tk' : Nat} {m₂ : PySem.Str → Option Value} {news₂ : List (Addr × Obj)} (F : Fr h₀ L h' m₂) (N : News h₀ L h' news₂) (hj : J m₂ news₂) :
    WEnd h₀ L Q J s .next { s with heap := h', toks := tk' } := ⟨h', tk', m₂, news₂, rfl, F, N, hj⟩
theorem while_led {Q : Flow → Shared → Prop} {test : Expr} {body : List Stmt} {pos : Pos} (J : Nat → (PySem.Str → Option Value) → List (Addr × Obj) → Prop) (n : Nat)
    {m : PySem.Str → Option Value} {news : List (Addr × Obj)} (F : Fr h₀ env.locals s.heap m) (N : News h₀ env.locals s.heap news) (hj : J 0 m news)
    (turn : ∀ i m₁ news₁ h tk, i ≤ n → J i m₁ news₁ → Fr h₀ env.locals h m₁ → News h₀ env.locals h news₁ →
      wpAny (model prog w) A (isTrue test env (eval test env)) (fun b s₂ => if b then wpAny (model prog w) A (execs body env) (WEnd h₀ env.locals Q (fun m' n' => i < n ∧ J (i + 1) m' n') s) (fun _ _ => False) s₂ else Q .next s₂) (fun _ _ => False) { s with heap := h, toks := tk }) :
    wpAny (model prog w) A (exec (.While test body [] pos) env) Q E s := by
  refine wpAny_While ?_
  refine codeAny_whileLoop (fun k s' => ∃ i h tk m₁ news₁, s' = { s with heap := h, toks := tk } ∧ i ≤ n ∧ k = n - i ∧ J i m₁ news₁ ∧ Fr h₀ env.locals h m₁ ∧ News h₀ env.locals h news₁) ?_ n ⟨0, s.heap, s.toks, m, news, rfl, Nat.zero_le _, rfl, hj, F, N⟩
  rintro k s' ⟨i, h, tk, m₁, news₁, rfl, hi, rfl, hJ, F₁, N₁⟩
  refine wpAny_mono (turn i m₁ news₁ h tk hi hJ F₁ N₁) (fun b s₂ h₂ => ?_) fun _ _ e => e.elim
  cases b with
  | false => exact wpAny_execs_nil h₂
  | true =>
    refine wpAny_mono (show wpAny (model prog w) A (execs body env) (WEnd h₀ env.locals Q (fun m' n' => i < n ∧ J (i + 1) m' n') s) (fun _ _ => False) s₂ from h₂) (fun f s₃ h₃ => ?_) fun _ _ e => e.elim
    cases f with
    | brk => exact h₃
    | ret v => exact h₃
    | next =>
      obtain ⟨h', tk', m₂, news₂, rfl, F₂, N₂, hlt, hJ₂⟩ := h₃
      exact ⟨n - (i + 1), by omega, i + 1, h', tk', m₂, news₂, rfl, hlt, rfl, hJ₂, F₂, N₂⟩
    | cont =>
      obtain ⟨h', tk', m₂, news₂, rfl, F₂, N₂, hlt, hJ₂⟩ := h₃
      exact ⟨n - (i + 1), by omega, i + 1, h', tk', m₂, news₂, rfl, hlt, rfl, hJ₂, F₂, N₂⟩
end
end Mine
end
/-! Oct2 -/
section
open PySem PySem.W PyProof.Rows PySem.Calls
namespace Mine
theorem octs_list (nm : Array UInt8) (ns : List Int) : (octs nm ns ns.length).toList = nm.toList ++ ns.flatMap le4 := by
  unfold octs
  rw [List.take_length]
  simp
theorem drop4 : ∀ (ns : List Int) (j : Nat), (ns.flatMap le4).drop (4 * j) = (ns.drop j).flatMap le4
  | ns, 0 => by simp
  | [], j + 1 => by simp
  | n :: r, j + 1 => by
    rw [List.flatMap_cons, List.drop_append, le4_len, List.drop_succ_cons]
    rw [List.drop_eq_nil_of_le (by rw [le4_len]; omega), List.nil_append, show 4 * (j + 1) - 4 = 4 * j by omega]
    exact drop4 r j
theorem read_head {nm : Array UInt8} {ns : List Int} (hnm : nm.size = 4) : Builtin.Bytes.sliced (octs nm ns ns.length) ((0 : Nat) : Int) ((min (0 + 4) (octs nm ns ns.length).size : Nat) : Int) 1 = nm := by
  have hsz := octs_size nm ns ns.length (Nat.le_refl _)
  rw [sliced_eq, octs_list, show min (0 + 4) (octs nm ns ns.length).size - 0 = 4 by omega, List.drop_zero]
  have h4 : nm.toList.length = 4 := by simpa using hnm
  rw [← h4, List.take_left]
theorem read_at {nm : Array UInt8} {ns : List Int} {j : Nat} {n : Int} (hnm : nm.size = 4) (h : ns[j]? = some n) :
    Builtin.Bytes.sliced (octs nm ns ns.length) ((4 + 4 * j : Nat) : Int) ((min (4 + 4 * j + 4) (octs nm ns ns.length).size : Nat) : Int) 1 = (le4 n).toArray := by
  have hsz := octs_size nm ns ns.length (Nat.le_refl _)
  obtain ⟨hj, he⟩ := List.getElem?_eq_some_iff.mp h
  have h4 : nm.toList.length = 4 := by simpa using hnm
  rw [sliced_eq, octs_list, show min (4 + 4 * j + 4) (octs nm ns ns.length).size - (4 + 4 * j) = 4 by omega]
  rw [List.drop_append, h4, List.drop_eq_nil_of_le (by omega), List.nil_append, show 4 + 4 * j - 4 = 4 * j by omega, drop4]
  rw [List.drop_eq_getElem_cons hj, List.flatMap_cons, he]
  have : (le4 n).length = 4 := rfl
  rw [← this, List.take_left]
theorem back4 {n : Int} (h0 : 0 ≤ n) (h1 : n < 4294967296) : (((0 * 256 + n / 256 / 256 / 256 % 256) * 256 + n / 256 / 256 % 256) * 256 + n / 256 % 256) * 256 + n % 256 = n := by omega
end Mine
namespace Mine
theorem m_push4 {r a b c d : PySem.Str} {v A B C D : Option Value} {u : PySem.Str → Option Value} (h1 : r ≠ a) (h2 : r ≠ b) (h3 : r ≠ c) (h4 : r ≠ d) :
    (fun y => if y = r then v else if y = a then A else if y = b then B else if y = c then C else if y = d then D else u y) = fun y => if y = a then A else if y = b then B else if y = c then C else if y = d then D else if y = r then v else u y := by
  funext y
  by_cases h : y = r
  · subst h
    simp [h1, h2, h3, h4]
  · simp [h]
theorem m_look2b {a b : PySem.Str} {r q : Option Value} {u : PySem.Str → Option Value} (h : u a = r) (h' : u b = q) : u = fun y => if y = a then r else if y = b then q else u y := by
  funext y
  by_cases h1 : y = a
  · subst h1; simp [h]
  · by_cases h2 : y = b
    · subst h2; simp [h1, h']
    · simp [h1, h2]
theorem m_under2 {a b c d : PySem.Str} {A B C D : Option Value} {u : PySem.Str → Option Value} (h : u c = C) (h' : u d = D) : (fun y => if y = a then A else if y = b then B else u y) = fun y => if y = a then A else if y = b then B else if y = c then C else if y = d then D else u y := by
  conv => lhs; rw [m_look2b h h']
theorem le4_ints {n : Int} : KBw.bInts (le4 n).toArray = [n % 256, n / 256 % 256, n / 256 / 256 % 256, n / 256 / 256 / 256 % 256] := le4_bInts
end Mine
end
section
open PySem PySem.W PyProof.Rows PySem.Calls
namespace Mine
local macro_rules | `(tactic| k_all) => `(tactic| first | assumption | exact all_neF (by assumption) (by first | exact Nat.le_refl _ | exact Nat.le_succ _ | exact Nat.le_add_right _ _ | omega) | exact all_ne (by assumption) (by first | exact Nat.le_refl _ | exact Nat.le_succ _ | omega) | exact off1_ne (by assumption))
local macro_rules | `(tactic| walk_at "call type:type") => `(tactic| first
  | (k_here; (with_reducible show wpAny _ _ (call (Value.type "type") [Value.bytes _ _]) _ _ _); refine call_type_of (Tx := "bytes") rfl (by decide) ?_)
  | (k_here; (with_reducible show wpAny _ _ (call (Value.type "type") [Value.int _ _]) _ _ _); refine call_type_of (Tx := "int") rfl (by decide) ?_))
/-! St -/
section
open PySem PySem.W PyProof.Rows PySem.Calls
section
variable {w : World} {dp un : Nat} {cn : PySem.Str} {cs : Scope} {a : Addr} {ccd : Value} {cl : List (PySem.Str × Addr)} {outer : List Env} {A₀ : Around} {base h₀ : Heap} {L : Addr} {m mg mb : PySem.Str → Option Value} {mean : ExcName → Option Value} {loose : List PySem.Str} {s : Shared} {Q E : Value → Shared → Prop} {news : List (Addr × Obj)}
variable (B : Below A₀ base outer h₀) (F : Fr h₀ L s.heap m) (X : (hd.heap_39 w.params).In h₀) (N : News h₀ L s.heap news) (T : Top hd.view_39 loose mean mg mb h₀) (hk : cs.kind = .function)
include B F X N T hk
/-- one step's text -/
theorem step_c {n : Int} {t u : Tok} {mk : Nat} (hdp : dp + 1 < recursionLimit) (hu : un + 8 < cLine) (h0 : 0 ≤ n) (h1 : n < 4294967296)
    (hret : ∀ (t : Tok) (h' : Heap) (tk' : Nat), Fr h₀ L h' m → News h₀ L h' news → Q (.str (lit (stepL n [mk])) t) { s with heap := h', toks := tk' }) :
    wpAny (model PySem.Challenge.rw_ci0003_01.row.prog w) (ktrTop dp un (some []) cn cs L a ccd cl outer) (call (.ref 757) [.int n t, .str (lit [mk]) u]) Q E s := by
  revert X; k_fill; intro X
  refine wpAny_call ?_
  k_dflt (first | (refine' code_defN ?k1 ?k2 ?k3 ?k4 ?k5 ?kA ?kF ?kK ?k6 ?k7 ?k8 ?k9 ?kB ?_ ?c2 ?c3 ?c4 ?c5; (case kA => exact rfl); (case kF => exact rfl); (case kK => first | assumption | exact rfl); (case k1 => k_asm); (case k2 => k_asm); (case k3 => k_asm); (case k4 => k_asm); (case k5 => k_asm); (case k6 => k_is); (case k7 => k_is); (case k8 => ktr_room); (case k9 => first | exact BindsTo.of_eq rfl | exact binds_K (by k_in) rfl (by k_is) rfl rfl rfl); (case c5 => decide); (case kB => exact locs rfl); (case c2 => exact rfl); (case c3 => exact rfl); (case c4 => exact rfl); k_whole; intro g' L' h' FG' F' N' B' X' T'; (try dsimp only); (try k_lift B'); (try k_fold)) | (refine' code_def ?k1 ?k2 ?k3 ?k4 ?k5 ?kA ?kF ?kK ?k6 ?k7 ?k8 ?k9 ?kB ?_ ?c2 ?c3 ?c4 ?c5; (case kA => exact rfl); (case kF => exact rfl); (case kK => first | assumption | exact rfl); (case k1 => k_asm); (case k2 => k_asm); (case k3 => k_asm); (case k4 => k_asm); (case k5 => k_asm); (case k6 => k_is); (case k7 => k_is); (case k8 => ktr_room); (case k9 => first | exact BindsTo.of_eq rfl | exact binds_K (by k_in) rfl (by k_is) rfl rfl rfl); (case c5 => decide); (case kB => exact locs rfl); (case c2 => exact rfl); (case c3 => exact rfl); (case c4 => exact rfl); k_whole; intro g' L' h' FG' F' N' B' X' T'; (try dsimp only); (try k_lift B'); (try k_fold)) | (kp_kind "both"; (refine' kp_both ?k1 ?k2 ?k3 ?k4 ?k5 ?kA ?kF ?kK ?k6 ?k7 ?k8 ?kV ?kX ?kQ ?kM ?kN ?kD ?kR ?kP ?kS ?kT ?kB ?_ ?c2 ?c3 ?c4 ?c5; (case kA => exact rfl); (case kF => exact rfl); (case kK => first | assumption | exact rfl); (case k1 => k_asm); (case k2 => k_asm); (case k3 => k_asm); (case k4 => k_asm); (case k5 => k_asm); (case k6 => k_is); (case k7 => k_is); (case k8 => ktr_room); (case kV => kp_lit); (case kX => kp_lit); (case kQ => exact rfl); (case kM => exact rfl); (case kN => exact rfl); (case kD => kp_flats); (case kR => exact rfl); (case kP => exact rfl); (case kS => exact fun _ => rfl); (case kT => exact fun _ _ => rfl); (case kB => exact fun _ _ => locs rfl); (case c5 => decide); (case c2 => exact rfl); (case c3 => exact rfl); (case c4 => exact rfl); k_whole; intro C' D' o' g' L' h' tk' l1 l2 lo' hs' fs' FG' F' N' B' X' T'; (try k_lt l1); (try k_lt2 l2); (try dsimp only); (try k_lift B'); (try k_fold))))
  k_steps
  · have e : stepL n [mk] = digs n := if_pos (by simpa using ‹n < _›)
    rename News _ _ _ _ => N9
    rename Fr _ _ _ _ => F9
    rw [e] at hret
    rw [str_num h0]
    exact hret _ _ _ F9 N9
  · have hn : ¬ n < 2147483648 := by simpa using ‹¬ n < _›
    have e : stepL n [mk] = digs (n - 2147483648) ++ [mk] := if_neg hn
    rw [e] at hret
    have e2 : (2 : Int) ^ Int.toNat 31 = 2147483648 := by decide
    rw [e2]
    clear e2
    k_steps
    rename News _ _ _ _ => N9
    rename Fr _ _ _ _ => F9
    rw [str_num (by omega), lit_app]
    exact hret _ _ _ F9 N9
end
end
/-! IBad -/
section
open PySem PySem.W PyProof.Rows PySem.Calls
section
variable {w : World} {dp un : Nat} {cn : PySem.Str} {cs : Scope} {a : Addr} {ccd : Value} {cl : List (PySem.Str × Addr)} {outer : List Env} {A₀ : Around} {base h₀ : Heap} {L : Addr} {m mg mb : PySem.Str → Option Value} {mean : ExcName → Option Value} {loose : List PySem.Str} {s : Shared} {Q E : Value → Shared → Prop} {news : List (Addr × Obj)}
variable (B : Below A₀ base outer h₀) (F : Fr h₀ L s.heap m) (X : (hd.heap_39 w.params).In h₀) (T : Top hd.view_39 loose mean mg mb h₀) (hk : cs.kind = .function)
include B F X T hk
local macro_rules | `(tactic| walk_at "call type:int") => `(tactic| (k_here; refine Stop.go ?_))
omit B F X T hk in
theorem raised_sub {l : List Env} {e t : Addr} {c : Value} {vs : List Value} {n n' : List (Addr × Obj)} {h : Heap} (R : RaisedK base l e c t vs n h) (k : ∀ p ∈ n', p ∈ n) : RaisedK base l e c t vs n' h := by
  obtain ⟨⟨B, a1, a2, a3, a4⟩, a5⟩ := R
  exact ⟨⟨B, a1, fun q hq => a2 q (k q hq), a3, a4⟩, a5⟩
/-- a path's part that is no number is refused -/
theorem item_bad {e : PySem.Str} {t : Tok} (hdp : dp + 1 < recursionLimit) (hu : un + 8 < cLine) (N : News h₀ L s.heap news) (h0 : 0 < e.length) (h1 : e.length ≤ 100) (hv : itemVal? e = none)
    (hz1 : (reprText e).length ≤ sizeLine) (hz2 : (reprText (Txt.slice e none (some (-1)))).length ≤ sizeLine)
    (hraise : ∀ (x tt : Addr) (vs : List Value) (g' h' : Heap) (tk' : Nat), Fr h₀ L g' m → RaisedK base (envX cn cs L a ccd cl :: outer) x (.type "ValueError") tt vs news h' → g'.UpToSlots h' → E (.ref x) { s with heap := h', toks := tk' }) :
    codeN (model PySem.Challenge.rw_ci0003_01.row.prog w) (ktrTop dp un (some []) cn cs L a ccd cl outer) (.call (.ref 33) ⟨[.str e t], []⟩) (fun r s' => match r with | .ok (.ret v) => Q v s' | .ok _ => False | .error e => E e s') s := by
  revert X; k_fill; intro X
  k_dflt (first | (refine' code_defN ?k1 ?k2 ?k3 ?k4 ?k5 ?kA ?kF ?kK ?k6 ?k7 ?k8 ?k9 ?kB ?_ ?c2 ?c3 ?c4 ?c5; (case kA => exact rfl); (case kF => exact rfl); (case kK => first | assumption | exact rfl); (case k1 => k_asm); (case k2 => k_asm); (case k3 => k_asm); (case k4 => k_asm); (case k5 => k_asm); (case k6 => k_is); (case k7 => k_is); (case k8 => ktr_room); (case k9 => first | exact BindsTo.of_eq rfl | exact binds_K (by k_in) rfl (by k_is) rfl rfl rfl); (case c5 => decide); (case kB => exact locs rfl); (case c2 => exact rfl); (case c3 => exact rfl); (case c4 => exact rfl); k_whole; intro g' L' h' FG' F' N' B' X' T'; (try dsimp only); (try k_lift B'); (try k_fold)) | (refine' code_def ?k1 ?k2 ?k3 ?k4 ?k5 ?kA ?kF ?kK ?k6 ?k7 ?k8 ?k9 ?kB ?_ ?c2 ?c3 ?c4 ?c5; (case kA => exact rfl); (case kF => exact rfl); (case kK => first | assumption | exact rfl); (case k1 => k_asm); (case k2 => k_asm); (case k3 => k_asm); (case k4 => k_asm); (case k5 => k_asm); (case k6 => k_is); (case k7 => k_is); (case k8 => ktr_room); (case k9 => first | exact BindsTo.of_eq rfl | exact binds_K (by k_in) rfl (by k_is) rfl rfl rfl); (case c5 => decide); (case kB => exact locs rfl); (case c2 => exact rfl); (case c3 => exact rfl); (case c4 => exact rfl); k_whole; intro g' L' h' FG' F' N' B' X' T'; (try dsimp only); (try k_lift B'); (try k_fold)) | (kp_kind "both"; (refine' kp_both ?k1 ?k2 ?k3 ?k4 ?k5 ?kA ?kF ?kK ?k6 ?k7 ?k8 ?kV ?kX ?kQ ?kM ?kN ?kD ?kR ?kP ?kS ?kT ?kB ?_ ?c2 ?c3 ?c4 ?c5; (case kA => exact rfl); (case kF => exact rfl); (case kK => first | assumption | exact rfl); (case k1 => k_asm); (case k2 => k_asm); (case k3 => k_asm); (case k4 => k_asm); (case k5 => k_asm); (case k6 => k_is); (case k7 => k_is); (case k8 => ktr_room); (case kV => kp_lit); (case kX => kp_lit); (case kQ => exact rfl); (case kM => exact rfl); (case kN => exact rfl); (case kD => kp_flats); (case kR => exact rfl); (case kP => exact rfl); (case kS => exact fun _ => rfl); (case kT => exact fun _ _ => rfl); (case kB => exact fun _ _ => locs rfl); (case c5 => decide); (case c2 => exact rfl); (case c3 => exact rfl); (case c4 => exact rfl); k_whole; intro C' D' o' g' L' h' tk' l1 l2 lo' hs' fs' FG' F' N' B' X' T'; (try k_lt l1); (try k_lt2 l2); (try dsimp only); (try k_lift B'); (try k_fold))))
  refine N_cons (N_If (wpN_lift ?_))
  k_steps
  · have hm : isMark e = true := by assumption
    have hk1 : PySem.intText? (Txt.slice e none (some (-1))) = none := by
      unfold itemVal? at hv
      rw [if_pos hm] at hv
      simpa using hv
    refine N_cons (N_Return (N_BinOp ?_))
    refine N_Call_Name ?_
    k_steps
    refine N_callWith_p keeps_ty ?_
    k_steps
    · trivial
    refine int_bad hk1 (by omega) hz2 rfl ?_
    rintro h' tk' x vs hx
    k_steps
    rename RaisedK _ _ _ _ _ _ _ _ => R9
    rename Heap.UpToSlots _ _ => U9
    exact hraise _ _ _ _ _ _ (by assumption) (raised_sub R9 fun p hp => List.mem_cons_of_mem _ hp) U9
  · have hm : ¬ isMark e = true := by rw [Bool.not_eq_true]; assumption
    have hk1 : PySem.intText? e = none := by
      unfold itemVal? at hv
      rwa [if_neg hm] at hv
    refine N_cons (N_Return ?_)
    refine N_Call_Name ?_
    k_steps
    refine N_callWith_p keeps_ty ?_
    k_steps
    · trivial
    refine int_bad hk1 h1 hz1 rfl ?_
    rintro h' tk' x vs hx
    k_steps
    rename RaisedK _ _ _ _ _ _ _ _ => R9
    rename Heap.UpToSlots _ _ => U9
    exact hraise _ _ _ _ _ _ (by assumption) (raised_sub R9 fun p hp => List.mem_cons_of_mem _ hp) U9
end
end
/-! INil -/
section
open PySem PySem.W PyProof.Rows PySem.Calls
section
variable {w : World} {dp un : Nat} {cn : PySem.Str} {cs : Scope} {a : Addr} {ccd : Value} {cl : List (PySem.Str × Addr)} {outer : List Env} {A₀ : Around} {base h₀ : Heap} {L : Addr} {m mg mb : PySem.Str → Option Value} {mean : ExcName → Option Value} {loose : List PySem.Str} {s : Shared} {Q E : Value → Shared → Prop} {news : List (Addr × Obj)}
variable (B : Below A₀ base outer h₀) (F : Fr h₀ L s.heap m) (X : (hd.heap_39 w.params).In h₀) (T : Top hd.view_39 loose mean mg mb h₀) (hk : cs.kind = .function)
include B F X T hk
/-- an empty part is refused -/
theorem item_nil {t : Tok} (hdp : dp + 1 < recursionLimit) (hu : un + 8 < cLine) (N : News h₀ L s.heap news)
    (hraise : ∀ (x tt : Addr) (vs : List Value) (g' h' : Heap) (tk' : Nat), Fr h₀ L g' m → RaisedK base (envX cn cs L a ccd cl :: outer) x (.type "IndexError") tt vs news h' → g'.UpToSlots h' → E (.ref x) { s with heap := h', toks := tk' }) :
    codeN (model PySem.Challenge.rw_ci0003_01.row.prog w) (ktrTop dp un (some []) cn cs L a ccd cl outer) (.call (.ref 33) ⟨[.str (PySem.Str.ofString "") t], []⟩) (fun r s' => match r with | .ok (.ret v) => Q v s' | .ok _ => False | .error e => E e s') s := by
  revert X; k_fill; intro X
  k_dflt (first | (refine' code_defN ?k1 ?k2 ?k3 ?k4 ?k5 ?kA ?kF ?kK ?k6 ?k7 ?k8 ?k9 ?kB ?_ ?c2 ?c3 ?c4 ?c5; (case kA => exact rfl); (case kF => exact rfl); (case kK => first | assumption | exact rfl); (case k1 => k_asm); (case k2 => k_asm); (case k3 => k_asm); (case k4 => k_asm); (case k5 => k_asm); (case k6 => k_is); (case k7 => k_is); (case k8 => ktr_room); (case k9 => first | exact BindsTo.of_eq rfl | exact binds_K (by k_in) rfl (by k_is) rfl rfl rfl); (case c5 => decide); (case kB => exact locs rfl); (case c2 => exact rfl); (case c3 => exact rfl); (case c4 => exact rfl); k_whole; intro g' L' h' FG' F' N' B' X' T'; (try dsimp only); (try k_lift B'); (try k_fold)) | (refine' code_def ?k1 ?k2 ?k3 ?k4 ?k5 ?kA ?kF ?kK ?k6 ?k7 ?k8 ?k9 ?kB ?_ ?c2 ?c3 ?c4 ?c5; (case kA => exact rfl); (case kF => exact rfl); (case kK => first | assumption | exact rfl); (case k1 => k_asm); (case k2 => k_asm); (case k3 => k_asm); (case k4 => k_asm); (case k5 => k_asm); (case k6 => k_is); (case k7 => k_is); (case k8 => ktr_room); (case k9 => first | exact BindsTo.of_eq rfl | exact binds_K (by k_in) rfl (by k_is) rfl rfl rfl); (case c5 => decide); (case kB => exact locs rfl); (case c2 => exact rfl); (case c3 => exact rfl); (case c4 => exact rfl); k_whole; intro g' L' h' FG' F' N' B' X' T'; (try dsimp only); (try k_lift B'); (try k_fold)) | (kp_kind "both"; (refine' kp_both ?k1 ?k2 ?k3 ?k4 ?k5 ?kA ?kF ?kK ?k6 ?k7 ?k8 ?kV ?kX ?kQ ?kM ?kN ?kD ?kR ?kP ?kS ?kT ?kB ?_ ?c2 ?c3 ?c4 ?c5; (case kA => exact rfl); (case kF => exact rfl); (case kK => first | assumption | exact rfl); (case k1 => k_asm); (case k2 => k_asm); (case k3 => k_asm); (case k4 => k_asm); (case k5 => k_asm); (case k6 => k_is); (case k7 => k_is); (case k8 => ktr_room); (case kV => kp_lit); (case kX => kp_lit); (case kQ => exact rfl); (case kM => exact rfl); (case kN => exact rfl); (case kD => kp_flats); (case kR => exact rfl); (case kP => exact rfl); (case kS => exact fun _ => rfl); (case kT => exact fun _ _ => rfl); (case kB => exact fun _ _ => locs rfl); (case c5 => decide); (case c2 => exact rfl); (case c3 => exact rfl); (case c4 => exact rfl); k_whole; intro C' D' o' g' L' h' tk' l1 l2 lo' hs' fs' FG' F' N' B' X' T'; (try k_lt l1); (try k_lt2 l2); (try dsimp only); (try k_lift B'); (try k_fold))))
  refine N_cons (N_If (wpN_lift ?_))
  k_steps
  refine sub_nil rfl ?_
  rintro h' tk' x vs hx
  k_steps
  rename RaisedK _ _ _ _ _ _ _ _ => R9
  rename Heap.UpToSlots _ _ => U9
  exact hraise _ _ _ _ _ _ (by assumption) R9 U9
end
end
/-! ParB -/
section
open PySem PySem.W PyProof.Rows PySem.Calls
section
variable {w : World} {dp un : Nat} {cn : PySem.Str} {cs : Scope} {a : Addr} {ccd : Value} {cl : List (PySem.Str × Addr)} {outer : List Env} {A₀ : Around} {base h₀ : Heap} {L : Addr} {m mg mb : PySem.Str → Option Value} {mean : ExcName → Option Value} {loose : List PySem.Str} {s : Shared} {Q E : Value → Shared → Prop} {news : List (Addr × Obj)}
variable (B : Below A₀ base outer h₀) (F : Fr h₀ L s.heap m) (X : (hd.heap_39 w.params).In h₀) (T : Top hd.view_39 loose mean mg mb h₀) (hk : cs.kind = .function)
include B F X T hk
local macro_rules | `(tactic| walk_at "eval ListComp") => `(tactic| (k_here; refine Stop.go ?_))
local macro_rules | `(tactic| walk_at "call builtin:len") => `(tactic| (k_here; (with_reducible show wpAny _ _ (call (Value.builtin "len") [Value.ref _]) _ _ _); refine Stop.go ?_))
local macro_rules | `(tactic| walk_at "call ref") => `(tactic| (k_here; (with_reducible show wpAny _ _ (call (Value.ref 33) _) _ _ _); refine Stop.go ?_))
omit B F X T hk in
theorem N_pre_cut {M : Model} {A : Around} {env : Env} {st : Stmt} {rest : List Stmt} {Q : Flow → Shared → Prop} {E : Value → Shared → Prop} {s : Shared} (R : Shared → Prop)
    (h : wpAny M A (exec st env) (fun f s' => Stop (f = .next ∧ R s')) E s) (k : ∀ s', R s' → wpN M A (execs rest env) Q E s') : wpN M A (execs (st :: rest) env) Q E s := by
  refine N_cons (wpN_mono (wpN_lift h) (fun f s' hh => ?_) fun _ _ he => he)
  obtain ⟨rfl, r⟩ := hh
  exact k s' r
/-- a path of which the part j is refused -/
theorem parse_bad {x : PySem.Str} {t : Tok} {ps : List PySem.Str} {j : Nat} (hdp : dp + 2 < recursionLimit) (hu : un + 16 < cLine) (N : News h₀ L s.heap news) (h1 : x.length ≤ 1000)
    (hps : Txt.split (Txt.rstripChars x (PySem.Str.ofString "/")) (PySem.Str.ofString "/") = ps) (hqs : ItemsBad (stepsOf ps) j) (hns : ps.length ≤ 100)
    (hraise : ∀ (x tt : Addr) (c : String) (vs : List Value) (g' h' : Heap) (tk' : Nat), c = "ValueError" ∨ c = "IndexError" → Fr h₀ L g' m → RaisedK base (envX cn cs L a ccd cl :: outer) x (.type c) tt vs news h' → g'.UpToSlots h' → E (.ref x) { s with heap := h', toks := tk' }) :
    codeN (model PySem.Challenge.rw_ci0003_01.row.prog w) (ktrTop dp un (some []) cn cs L a ccd cl outer) (.call (.ref 38) ⟨[.str x t], []⟩) (fun r s' => match r with | .ok (.ret v) => Q v s' | .ok _ => False | .error e => E e s') s := by
  revert X; k_fill; intro X
  k_dflt (first | (refine' code_defN ?k1 ?k2 ?k3 ?k4 ?k5 ?kA ?kF ?kK ?k6 ?k7 ?k8 ?k9 ?kB ?_ ?c2 ?c3 ?c4 ?c5; (case kA => exact rfl); (case kF => exact rfl); (case kK => first | assumption | exact rfl); (case k1 => k_asm); (case k2 => k_asm); (case k3 => k_asm); (case k4 => k_asm); (case k5 => k_asm); (case k6 => k_is); (case k7 => k_is); (case k8 => ktr_room); (case k9 => first | exact BindsTo.of_eq rfl | exact binds_K (by k_in) rfl (by k_is) rfl rfl rfl); (case c5 => decide); (case kB => exact locs rfl); (case c2 => exact rfl); (case c3 => exact rfl); (case c4 => exact rfl); k_whole; intro g' L' h' FG' F' N' B' X' T'; (try dsimp only); (try k_lift B'); (try k_fold)) | (refine' code_def ?k1 ?k2 ?k3 ?k4 ?k5 ?kA ?kF ?kK ?k6 ?k7 ?k8 ?k9 ?kB ?_ ?c2 ?c3 ?c4 ?c5; (case kA => exact rfl); (case kF => exact rfl); (case kK => first | assumption | exact rfl); (case k1 => k_asm); (case k2 => k_asm); (case k3 => k_asm); (case k4 => k_asm); (case k5 => k_asm); (case k6 => k_is); (case k7 => k_is); (case k8 => ktr_room); (case k9 => first | exact BindsTo.of_eq rfl | exact binds_K (by k_in) rfl (by k_is) rfl rfl rfl); (case c5 => decide); (case kB => exact locs rfl); (case c2 => exact rfl); (case c3 => exact rfl); (case c4 => exact rfl); k_whole; intro g' L' h' FG' F' N' B' X' T'; (try dsimp only); (try k_lift B'); (try k_fold)) | (kp_kind "both"; (refine' kp_both ?k1 ?k2 ?k3 ?k4 ?k5 ?kA ?kF ?kK ?k6 ?k7 ?k8 ?kV ?kX ?kQ ?kM ?kN ?kD ?kR ?kP ?kS ?kT ?kB ?_ ?c2 ?c3 ?c4 ?c5; (case kA => exact rfl); (case kF => exact rfl); (case kK => first | assumption | exact rfl); (case k1 => k_asm); (case k2 => k_asm); (case k3 => k_asm); (case k4 => k_asm); (case k5 => k_asm); (case k6 => k_is); (case k7 => k_is); (case k8 => ktr_room); (case kV => kp_lit); (case kX => kp_lit); (case kQ => exact rfl); (case kM => exact rfl); (case kN => exact rfl); (case kD => kp_flats); (case kR => exact rfl); (case kP => exact rfl); (case kS => exact fun _ => rfl); (case kT => exact fun _ _ => rfl); (case kB => exact fun _ _ => locs rfl); (case c5 => decide); (case c2 => exact rfl); (case c3 => exact rfl); (case c4 => exact rfl); k_whole; intro C' D' o' g' L' h' tk' l1 l2 lo' hs' fs' FG' F' N' B' X' T'; (try k_lt l1); (try k_lt2 l2); (try dsimp only); (try k_lift B'); (try k_fold))))
  refine N_pre ?_
  k_steps
  rename_i l h3 k hlook hS hA hL h2 F4 N4
  have hps' : l.map (·.1) = ps := hlook.trans hps
  have hl0 : l.length ≤ 100 := by rw [← hps'] at hns; simpa using hns
  refine N_pre_cut (fun s' => ∃ (D : Addr) (lv : List (PySem.Str × Tok)) (kk : Nat) (n₁ : List (Addr × Obj)) (h5 : Heap) (t5 : Nat) (u : PySem.Str → Option Value), s' = { s with heap := h5, toks := t5 } ∧ lv.map (·.1) = stepsOf ps ∧ lv.length ≤ 100 ∧ Fr g' L' h5 (fun y => if y = PySem.Str.ofString "arr" then some (.ref D) else u y) ∧ News g' L' h5 ((D, ({ cls := .type "list", data := .seq (strValues lv).toArray kk } : Obj)) :: n₁) ∧ ∀ p ∈ news, p ∈ n₁) ?_ ?_
  · k_steps
    · rename_i y t1 hy hm ha hb F5 N5
      cases l with
      | nil => simp at hy
      | cons p0 l' =>
        obtain ⟨y0, t0⟩ := p0
        have e0 : y0 = y := by simpa using hy
        subst e0
        have e1 : y0 = PySem.Str.ofString "m" := by simpa using hm
        have hps' := hlook.trans hps
        have hq : stepsOf ps = l'.map (·.1) := by
          rw [← hps']
          unfold stepsOf
          rw [List.map_cons, e1]
          simp
        rw [show strValues ((y0, t0) :: l') = Value.str y0 t0 :: strValues l' from rfl] at N5
        rw [pick_tail] at N5
        rw [List.length_cons] at hl0
        exact Stop.mk ⟨rfl, _, l', _, _, _, _, _, rfl, hq.symm, by omega, F5, N5, fun p hp => .tail _ hp⟩
    · rename_i y t1 hy hm
      have hq : stepsOf ps = ps := by
        have hps' := hlook.trans hps
        rw [← hps']
        unfold stepsOf
        rw [if_neg]
        intro e
        rw [List.head?_eq_getElem?] at e
        have e2 := hy.symm.trans e
        cases e2
        simp at hm
      exact Stop.mk ⟨rfl, _, l, _, _, _, _, _, rfl, (hlook.trans hps).trans hq.symm, hl0, F4, N4, fun p hp => hp⟩
  clear N4 F4 hS hA hL hlook h2 h3 hps' hl0
  rintro _ ⟨D, lv, kk, n₁, h5, t5, u, rfl, hq, hl2, F4, N4, hsub⟩
  clear l
  refine N_pre ?_
  k_steps
  have hS : StrsAre (strValues lv) (lv.map (·.1)) := strsAre_of_values lv
  rw [← hq] at hqs
  have hl : (strValues lv).length = (lv.map (·.1)).length := strsAre_len hS
  have hj := hqs.1
  rw [List.length_map] at hl hj
  unfold Stop
  refine Calls.call_len_list (items := (strValues lv).toArray) (News.isList N4 (.head _)) (by rw [List.size_toArray, hl]; omega) ?_
  k_steps
  · exfalso
    have e : (strValues lv).length = 0 := by simpa using ‹((strValues lv).toArray.size : Int) = 0›
    omega
  · rename Fr _ _ _ _ => F5
    rename News _ _ _ _ => N5
    refine N_cons (N_Return (N_ListComp_bad (base := base) F5 rfl (Around.frames_deeper (Below.stack (by assumption))) rfl (by rfl) (by decide) (by rfl) (by decide) (by rfl) ?_))
    k_steps
    refine ⟨_, _, _, _, j, (fun c => c = .type "ValueError" ∨ c = .type "IndexError"), rfl, F5, N5, .head _, by rw [List.size_toArray, hl, sizeLine_eq]; omega, by rw [List.size_toArray, hl]; exact hj, ?_, ?_, ?_⟩
    · intro i v I oI C oC D m2 ys h tk9 hi hv hC hx F9 N9 off ne
      obtain ⟨e, te, he, rfl⟩ := strsAre_at hS i v (by simpa using hv)
      obtain ⟨n, p1, p2, p3, p4, p5⟩ := hqs.2.1 i e hi he
      refine wpN_lift ?_
      k_steps
      unfold Stop
      refine item_c (by k_asm) (by k_asm) (by k_asm) (by k_asm) (by k_asm) rfl (by ktr_room) p1 p2 p3 p4 p5 ?_
      intro t8 h8 tk8 F8 N8
      exact ⟨h8, tk8, rfl, F8, N8⟩
    · intro v I oI C oC D m2 ys h tk9 hv hC hx F9 N9 off ne
      obtain ⟨e, te, he, rfl⟩ := strsAre_at hS j v (by simpa using hv)
      refine N_Call_Name ?_
      k_steps
      refine N_callWith_p (keeps_N (K := hd.heap_39 w.params) (f := .ref 33) (by k_is)) ?_
      k_steps
      refine wpN_call ?_
      rcases hqs.2.2 e he with rfl | ⟨p1, p2, p3, p4, p5⟩
      · refine item_nil (by k_asm) (by k_asm) (by k_asm) (by k_asm) rfl (by ktr_room) (by ktr_units) N9 ?_
        intro x' tt vs g9 h9 tk' Fg R U
        exact ⟨x', h9, tk', g9, _, tt, vs, rfl, rfl, Fg, raised_sub R fun p hp => (List.mem_cons.mp hp).elim (fun q => q ▸ .tail _ (.head _)) fun q => .tail _ (.tail _ (.tail _ q)), U, .inr rfl⟩
      · refine item_bad (by k_asm) (by k_asm) (by k_asm) (by k_asm) rfl (by ktr_room) (by ktr_units) N9 p1 p2 p3 p4 p5 ?_
        intro x' tt vs g9 h9 tk' Fg R U
        exact ⟨x', h9, tk', g9, _, tt, vs, rfl, rfl, Fg, raised_sub R fun p hp => (List.mem_cons.mp hp).elim (fun q => q ▸ .tail _ (.head _)) fun q => .tail _ (.tail _ (.tail _ q)), U, .inl rfl⟩
    · intro x' c tt vs h9 tk9 H9 U9 hc
      refine leaveHeldK rfl H9 fun h10 R10 U10 => ?_
      rcases hc with rfl | rfl
      · exact hraise _ _ _ _ _ _ _ (.inl rfl) (by assumption) (raised_sub R10 fun p hp => by repeat (first | exact hsub p hp | apply List.Mem.tail)) (U9.trans U10)
      · exact hraise _ _ _ _ _ _ _ (.inr rfl) (by assumption) (raised_sub R10 fun p hp => by repeat (first | exact hsub p hp | apply List.Mem.tail)) (U9.trans U10)
end
end
/-! Ref -/
section
open PySem PySem.W PyProof.Rows PySem.Calls
section
variable {w : World} {dp un : Nat} {cn : PySem.Str} {cs : Scope} {a : Addr} {ccd : Value} {cl : List (PySem.Str × Addr)} {outer : List Env} {A₀ : Around} {base h₀ : Heap} {L : Addr} {m mg mb : PySem.Str → Option Value} {mean : ExcName → Option Value} {loose : List PySem.Str} {s : Shared} {Q E : Value → Shared → Prop} {news : List (Addr × Obj)}
variable (B : Below A₀ base outer h₀) (F : Fr h₀ L s.heap m) (X : (hd.heap_39 w.params).In h₀) (T : Top hd.view_39 loose mean mg mb h₀) (hk : cs.kind = .function)
include B F X T hk
local macro_rules | `(tactic| walk_at "noteFrame ref") => `(tactic| (k_here; refine Stop.go ?_))
omit B F X T hk in
theorem refused_c {x : PySem.Str} {t : Tok} {ps : List PySem.Str} {j : Nat} (B : Below A₀ h₀ [] h₀) (F : Fr h₀ L s.heap m) (X : (hd.heap_39 w.params).In h₀) (N : News h₀ L s.heap news) (T : Top hd.view_39 loose mean mg mb h₀) (hk : cs.kind = .function)
    (hdp : dp + 3 < recursionLimit) (hu : un + 24 < cLine) (h1 : x.length ≤ 1000)
    (hps : Txt.split (Txt.rstripChars x (PySem.Str.ofString "/")) (PySem.Str.ofString "/") = ps) (hqs : ItemsBad (stepsOf ps) j) (hns : ps.length ≤ 100)
    (hret : ∀ (h' : Heap) (tk' : Nat), Fr h₀ L h' m → News h₀ L h' news → Q (.bool true) { s with heap := h', toks := tk' }) :
    wpN (model PySem.Challenge.rw_ci0003_01.row.prog w) (ktrTop dp un (some []) cn cs L a ccd cl []) (call (.ref 764) [.str x t]) Q E s := by
  revert X; k_fill; intro X
  refine wpN_call ?_
  k_dflt (refine' code_defNR ?k1 ?k2 ?k3 ?k4 ?k5 ?kA ?kF ?kK ?k6 ?k7 ?k8 ?k9 ?kB ?_ ?c2 ?c3 ?c4 ?c5; (case kA => exact rfl); (case kF => exact rfl); (case kK => first | assumption | exact rfl); (case k1 => k_asm); (case k2 => k_asm); (case k3 => k_asm); (case k4 => k_asm); (case k5 => k_asm); (case k6 => k_is); (case k7 => k_is); (case k8 => ktr_room); (case k9 => first | exact BindsTo.of_eq rfl | exact binds_K (by k_in) rfl (by k_is) rfl rfl rfl); (case c5 => decide); (case kB => exact locs rfl); (case c2 => exact rfl); (case c3 => exact rfl); (case c4 => exact rfl); k_whole)
  intro g' L' h' FG' F' N' B' X' T'
  dsimp only
  refine N_cons (N_Try ?_)
  refine N_cons (N_Expr ?_)
  refine N_Call_Name ?_
  k_steps
  refine N_callWith_p (keeps_N (K := hd.heap_39 w.params) (f := .ref 38) (by k_is)) ?_
  k_steps
  refine wpN_call ?_
  refine parse_bad (by k_asm) (by k_asm) (by k_asm) (by k_asm) rfl (by ktr_room) (by ktr_units) (by k_asm) h1 hps hqs hns ?_
  intro e tt c vs g9 h9 tk9 hc Fg R U
  have F0 : Fr h₀ L' g9 _ := ⟨Fg.ns, fun b o q => Fg.keep b o (FG'.keep b o q), Nat.le_trans (Nat.le_trans FG'.above (Nat.le_of_lt FG'.ns.lt)) Fg.above⟩
  have fin : ∀ (h' : Heap) (tk : Nat), h₀.StaysIn h' → (∀ q ∈ news, h'.get? q.1 = some q.2 ∧ h₀.get? q.1 = none) → h9.UpToSlots h' → Q (.bool true) { s with heap := h', toks := tk } := fun h' tk st nw up =>
    hret h' tk ⟨((Heap.UpToSlots.of_keeps Fg.keep).trans (U.trans up)).ns FG'.ns, st, FG'.above⟩ fun q hq => ⟨(nw q hq).1, (N q hq).2.1, (nw q hq).2⟩
  have TR := topRead_of T
  rcases hc with rfl | rfl
  · refine caught_two (b1 := true) (b2 := false) (h := g9) (K := hd.heap_39 w.params) (T1 := "ValueError") (T2 := "IndexError") (Around.frames_deeper rfl) F0 U R X TR (by k_is) (by k_is) PyProof.Rows.Boot.«ValueError» PyProof.Rows.Boot.«IndexError» (by decide) (by decide)
      PySem.F.isExc_ValueError PySem.F.notTuple_ValueError PySem.F.isExc_IndexError PySem.F.notTuple_IndexError (by rw [isSubtype_type]; kernel_rfl) (by rw [isSubtype_type]; kernel_rfl) rfl ?_ rfl rfl (by decide) rfl (by decide)
    intro h8 E8 tk8 st nw up
    k_steps
    exact fin h8 tk8 st nw up
  · refine caught_two (b1 := false) (b2 := true) (h := g9) (K := hd.heap_39 w.params) (T1 := "ValueError") (T2 := "IndexError") (Around.frames_deeper rfl) F0 U R X TR (by k_is) (by k_is) PyProof.Rows.Boot.«ValueError» PyProof.Rows.Boot.«IndexError» (by decide) (by decide)
      PySem.F.isExc_ValueError PySem.F.notTuple_ValueError PySem.F.isExc_IndexError PySem.F.notTuple_IndexError (by rw [isSubtype_type]; kernel_rfl) (by rw [isSubtype_type]; kernel_rfl) rfl ?_ rfl rfl (by decide) rfl (by decide)
    intro h8 E8 tk8 st nw up
    k_steps
    exact fin h8 tk8 st nw up
end
end
/-! Idx -/
section
open PySem PySem.W PyProof.Rows PySem.Calls
section
variable {w : World} {dp un : Nat} {cn : PySem.Str} {cs : Scope} {a : Addr} {ccd : Value} {cl : List (PySem.Str × Addr)} {outer : List Env} {A₀ : Around} {base h₀ : Heap} {L : Addr} {m mg mb : PySem.Str → Option Value} {mean : ExcName → Option Value} {loose : List PySem.Str} {s : Shared} {Q E : Value → Shared → Prop} {news : List (Addr × Obj)}
variable (B : Below A₀ base outer h₀) (F : Fr h₀ L s.heap m) (X : (hd.heap_39 w.params).In h₀) (N : News h₀ L s.heap news) (T : Top hd.view_39 loose mean mg mb h₀) (hk : cs.kind = .function)
include B F X N T hk
/-- a small number as an index -/
theorem idx_c {k : Nat} {t t2 : Tok} {what : PySem.Str} (hdp : dp + 1 < recursionLimit) (hu : un + 14 < cLine) (hk4 : k ≤ 4)
    (hret : ∀ (t5 : Tok) (h' : Heap) (tk' : Nat), Fr h₀ L h' m → News h₀ L h' news → Q (.int (k : Int) t5) { s with heap := h', toks := tk' }) :
    wpAny (model PySem.Challenge.rw_ci0003_01.row.prog w) (ktrTop dp un (some []) cn cs L a ccd cl outer) (call (.ref 73) [.int (k : Int) t, .str what t2]) Q E s := by
  revert X; k_fill; intro X
  refine wpAny_call ?_
  k_dflt (first | (refine' code_defN ?k1 ?k2 ?k3 ?k4 ?k5 ?kA ?kF ?kK ?k6 ?k7 ?k8 ?k9 ?kB ?_ ?c2 ?c3 ?c4 ?c5; (case kA => exact rfl); (case kF => exact rfl); (case kK => first | assumption | exact rfl); (case k1 => k_asm); (case k2 => k_asm); (case k3 => k_asm); (case k4 => k_asm); (case k5 => k_asm); (case k6 => k_is); (case k7 => k_is); (case k8 => ktr_room); (case k9 => first | exact BindsTo.of_eq rfl | exact binds_K (by k_in) rfl (by k_is) rfl rfl rfl); (case c5 => decide); (case kB => exact locs rfl); (case c2 => exact rfl); (case c3 => exact rfl); (case c4 => exact rfl); k_whole; intro g' L' h' FG' F' N' B' X' T'; (try dsimp only); (try k_lift B'); (try k_fold)) | (refine' code_def ?k1 ?k2 ?k3 ?k4 ?k5 ?kA ?kF ?kK ?k6 ?k7 ?k8 ?k9 ?kB ?_ ?c2 ?c3 ?c4 ?c5; (case kA => exact rfl); (case kF => exact rfl); (case kK => first | assumption | exact rfl); (case k1 => k_asm); (case k2 => k_asm); (case k3 => k_asm); (case k4 => k_asm); (case k5 => k_asm); (case k6 => k_is); (case k7 => k_is); (case k8 => ktr_room); (case k9 => first | exact BindsTo.of_eq rfl | exact binds_K (by k_in) rfl (by k_is) rfl rfl rfl); (case c5 => decide); (case kB => exact locs rfl); (case c2 => exact rfl); (case c3 => exact rfl); (case c4 => exact rfl); k_whole; intro g' L' h' FG' F' N' B' X' T'; (try dsimp only); (try k_lift B'); (try k_fold)) | (kp_kind "both"; (refine' kp_both ?k1 ?k2 ?k3 ?k4 ?k5 ?kA ?kF ?kK ?k6 ?k7 ?k8 ?kV ?kX ?kQ ?kM ?kN ?kD ?kR ?kP ?kS ?kT ?kB ?_ ?c2 ?c3 ?c4 ?c5; (case kA => exact rfl); (case kF => exact rfl); (case kK => first | assumption | exact rfl); (case k1 => k_asm); (case k2 => k_asm); (case k3 => k_asm); (case k4 => k_asm); (case k5 => k_asm); (case k6 => k_is); (case k7 => k_is); (case k8 => ktr_room); (case kV => kp_lit); (case kX => kp_lit); (case kQ => exact rfl); (case kM => exact rfl); (case kN => exact rfl); (case kD => kp_flats); (case kR => exact rfl); (case kP => exact rfl); (case kS => exact fun _ => rfl); (case kT => exact fun _ _ => rfl); (case kB => exact fun _ _ => locs rfl); (case c5 => decide); (case c2 => exact rfl); (case c3 => exact rfl); (case c4 => exact rfl); k_whole; intro C' D' o' g' L' h' tk' l1 l2 lo' hs' fs' FG' F' N' B' X' T'; (try k_lt l1); (try k_lt2 l2); (try dsimp only); (try k_lift B'); (try k_fold))))
  k_steps
  rename News _ _ _ _ => N20
  rename Fr _ _ _ _ => F20
  exact hret _ _ _ F20 N20
end
end
section
local macro_rules | `(tactic| walk_at "call builtin:len") => `(tactic| (k_here; (with_reducible show wpAny _ _ (call (Value.builtin "len") [Value.ref _]) _ _ _); (rename News _ _ _ _ => lN'); k_dflt (refine' call_len_baN lN' ?mem ?fit ?_; (case mem => k_mem); (case fit => omega))))
/-! Wr -/
section
open PySem PySem.W PyProof.Rows PySem.Calls
section
variable {w : World} {dp un : Nat} {cn : PySem.Str} {cs : Scope} {a : Addr} {ccd : Value} {cl : List (PySem.Str × Addr)} {outer : List Env} {A₀ : Around} {base h₀ : Heap} {L : Addr} {m mg mb : PySem.Str → Option Value} {mean : ExcName → Option Value} {loose : List PySem.Str} {s : Shared} {Q E : Value → Shared → Prop} {news : List (Addr × Obj)}
variable (B : Below A₀ base outer h₀) (F : Fr h₀ L s.heap m) (X : (hd.heap_39 w.params).In h₀) (T : Top hd.view_39 loose mean mg mb h₀) (hk : cs.kind = .function)
include B F X T hk
/-- octets written at a stream's end -/
theorem write_c {b d : Array UInt8} {p : Int} {t t1 t2 t3 : Tok} {x dx bx : Addr} (hdp : dp + 3 < recursionLimit) (hu : un + 24 < cLine)
    (e1 : @LT.lt Nat _ dx x) (e2 : @LT.lt Nat _ x bx) (o1 : ∀ p ∈ news, p.1 ≠ dx) (o2 : ∀ p ∈ news, p.1 ≠ bx)
    (N : News h₀ L s.heap ((bx, baObj b) :: (x, instObj 360 dx) :: (dx, bioD w bx p t1 t2 t3) :: news)) (hp : p = (b.size : Int)) (hd0 : 0 < d.size) (hz : b.size + d.size ≤ 100000)
    (hret : ∀ (t4 t5 : Tok) (h' : Heap) (tk' : Nat), Fr h₀ L h' m → News h₀ L h' ((bx, baObj (b ++ d)) :: (x, instObj 360 dx) :: (dx, bioD w bx (p + (d.size : Int)) t1 t2 t4) :: news) → Q (.int d.size t5) { s with heap := h', toks := tk' }) :
    wpN (model PySem.Challenge.rw_ci0003_01.row.prog w) (ktrTop dp un (some []) cn cs L a ccd cl outer) (call (.ref 343) [.ref x, .bytes d t]) Q E s := by
  subst hp
  revert X; k_fill; intro X
  refine wpN_call ?_
  k_dflt (first | (refine' code_defN ?k1 ?k2 ?k3 ?k4 ?k5 ?kA ?kF ?kK ?k6 ?k7 ?k8 ?k9 ?kB ?_ ?c2 ?c3 ?c4 ?c5; (case kA => exact rfl); (case kF => exact rfl); (case kK => first | assumption | exact rfl); (case k1 => k_asm); (case k2 => k_asm); (case k3 => k_asm); (case k4 => k_asm); (case k5 => k_asm); (case k6 => k_is); (case k7 => k_is); (case k8 => ktr_room); (case k9 => first | exact BindsTo.of_eq rfl | exact binds_K (by k_in) rfl (by k_is) rfl rfl rfl); (case c5 => decide); (case kB => exact locs rfl); (case c2 => exact rfl); (case c3 => exact rfl); (case c4 => exact rfl); k_whole; intro g' L' h' FG' F' N' B' X' T'; (try dsimp only); (try k_lift B'); (try k_fold)) | (refine' code_def ?k1 ?k2 ?k3 ?k4 ?k5 ?kA ?kF ?kK ?k6 ?k7 ?k8 ?k9 ?kB ?_ ?c2 ?c3 ?c4 ?c5; (case kA => exact rfl); (case kF => exact rfl); (case kK => first | assumption | exact rfl); (case k1 => k_asm); (case k2 => k_asm); (case k3 => k_asm); (case k4 => k_asm); (case k5 => k_asm); (case k6 => k_is); (case k7 => k_is); (case k8 => ktr_room); (case k9 => first | exact BindsTo.of_eq rfl | exact binds_K (by k_in) rfl (by k_is) rfl rfl rfl); (case c5 => decide); (case kB => exact locs rfl); (case c2 => exact rfl); (case c3 => exact rfl); (case c4 => exact rfl); k_whole; intro g' L' h' FG' F' N' B' X' T'; (try dsimp only); (try k_lift B'); (try k_fold)) | (kp_kind "both"; (refine' kp_both ?k1 ?k2 ?k3 ?k4 ?k5 ?kA ?kF ?kK ?k6 ?k7 ?k8 ?kV ?kX ?kQ ?kM ?kN ?kD ?kR ?kP ?kS ?kT ?kB ?_ ?c2 ?c3 ?c4 ?c5; (case kA => exact rfl); (case kF => exact rfl); (case kK => first | assumption | exact rfl); (case k1 => k_asm); (case k2 => k_asm); (case k3 => k_asm); (case k4 => k_asm); (case k5 => k_asm); (case k6 => k_is); (case k7 => k_is); (case k8 => ktr_room); (case kV => kp_lit); (case kX => kp_lit); (case kQ => exact rfl); (case kM => exact rfl); (case kN => exact rfl); (case kD => kp_flats); (case kR => exact rfl); (case kP => exact rfl); (case kS => exact fun _ => rfl); (case kT => exact fun _ _ => rfl); (case kB => exact fun _ _ => locs rfl); (case c5 => decide); (case c2 => exact rfl); (case c3 => exact rfl); (case c4 => exact rfl); k_whole; intro C' D' o' g' L' h' tk' l1 l2 lo' hs' fs' FG' F' N' B' X' T'; (try k_lt l1); (try k_lt2 l2); (try dsimp only); (try k_lift B'); (try k_fold))))
  refine N_pre ?_
  k_steps
  refine N_pre ?_
  k_steps
  refine wpAny_call ?_
  k_dflt (first | (refine' code_defN ?k1 ?k2 ?k3 ?k4 ?k5 ?kA ?kF ?kK ?k6 ?k7 ?k8 ?k9 ?kB ?_ ?c2 ?c3 ?c4 ?c5; (case kA => exact rfl); (case kF => exact rfl); (case kK => first | assumption | exact rfl); (case k1 => k_asm); (case k2 => k_asm); (case k3 => k_asm); (case k4 => k_asm); (case k5 => k_asm); (case k6 => k_is); (case k7 => k_is); (case k8 => ktr_room); (case k9 => first | exact BindsTo.of_eq rfl | exact binds_K (by k_in) rfl (by k_is) rfl rfl rfl); (case c5 => decide); (case kB => exact locs rfl); (case c2 => exact rfl); (case c3 => exact rfl); (case c4 => exact rfl); k_whole; intro g' L' h' FG' F' N' B' X' T'; (try dsimp only); (try k_lift B'); (try k_fold)) | (refine' code_def ?k1 ?k2 ?k3 ?k4 ?k5 ?kA ?kF ?kK ?k6 ?k7 ?k8 ?k9 ?kB ?_ ?c2 ?c3 ?c4 ?c5; (case kA => exact rfl); (case kF => exact rfl); (case kK => first | assumption | exact rfl); (case k1 => k_asm); (case k2 => k_asm); (case k3 => k_asm); (case k4 => k_asm); (case k5 => k_asm); (case k6 => k_is); (case k7 => k_is); (case k8 => ktr_room); (case k9 => first | exact BindsTo.of_eq rfl | exact binds_K (by k_in) rfl (by k_is) rfl rfl rfl); (case c5 => decide); (case kB => exact locs rfl); (case c2 => exact rfl); (case c3 => exact rfl); (case c4 => exact rfl); k_whole; intro g' L' h' FG' F' N' B' X' T'; (try dsimp only); (try k_lift B'); (try k_fold)) | (kp_kind "both"; (refine' kp_both ?k1 ?k2 ?k3 ?k4 ?k5 ?kA ?kF ?kK ?k6 ?k7 ?k8 ?kV ?kX ?kQ ?kM ?kN ?kD ?kR ?kP ?kS ?kT ?kB ?_ ?c2 ?c3 ?c4 ?c5; (case kA => exact rfl); (case kF => exact rfl); (case kK => first | assumption | exact rfl); (case k1 => k_asm); (case k2 => k_asm); (case k3 => k_asm); (case k4 => k_asm); (case k5 => k_asm); (case k6 => k_is); (case k7 => k_is); (case k8 => ktr_room); (case kV => kp_lit); (case kX => kp_lit); (case kQ => exact rfl); (case kM => exact rfl); (case kN => exact rfl); (case kD => kp_flats); (case kR => exact rfl); (case kP => exact rfl); (case kS => exact fun _ => rfl); (case kT => exact fun _ _ => rfl); (case kB => exact fun _ _ => locs rfl); (case c5 => decide); (case c2 => exact rfl); (case c3 => exact rfl); (case c4 => exact rfl); k_whole; intro C' D' o' g' L' h' tk' l1 l2 lo' hs' fs' FG' F' N' B' X' T'; (try k_lt l1); (try k_lt2 l2); (try dsimp only); (try k_lift B'); (try k_fold))))
  k_steps
  refine N_pre ?_
  k_steps
  refine N_pre ?_
  k_steps
  · exfalso; omega
  refine N_pre ?_
  k_steps
  refine N_pre ?_
  k_steps
  refine N_pre ?_
  k_steps
  refine N_cons (N_Assign_Subscript ?_)
  k_steps
  rename News _ _ _ _ => N4
  rename Fr _ _ _ _ => F4
  dsimp only
  refine ba_store (lo := (b.size : Int)) (hi := (b.size : Int) + (d.size : Int)) rfl (Heap.get?_push_of_some _ (N4 _ (.head _)).1) (Heap.get?_push_size _ rfl) rfl rfl (Nat.le_trans hz (by decide)) fun h5 k1 k2 _ => ?_
  have off : ∀ p ∈ (x, instObj 360 dx) :: (dx, bioD w bx (b.size : Int) t1 t2 t3) :: news, p.1 ≠ bx := fun p hp => by
    rcases List.mem_cons.mp hp with rfl | hp
    · exact Nat.ne_of_lt e2
    rcases List.mem_cons.mp hp with rfl | hp
    · exact Nat.ne_of_lt (Nat.lt_trans e1 e2)
    · exact o2 p hp
  obtain ⟨F5, N5⟩ := led_write F4 N4 off (fun a o ha e => k1 a o ha (Heap.get?_push_of_some _ e)) k2
  dsimp only
  refine N_pre ?_
  k_steps
  refine N_pre ?_
  k_steps
  rename News _ _ _ _ => N9
  rename Fr _ _ _ _ => F9
  exact hret _ _ _ _ F9 N9
end
end
section
local macro_rules | `(tactic| walk_at "True") => `(tactic| trivial)
theorem anew_Wto : True := by
  w_top off
  walk1
end
/-! Wto -/
section
open PySem PySem.W PyProof.Rows PySem.Calls
section
variable {w : World} {dp un : Nat} {cn : PySem.Str} {cs : Scope} {a : Addr} {ccd : Value} {cl : List (PySem.Str × Addr)} {outer : List Env} {A₀ : Around} {base h₀ : Heap} {L : Addr} {m mg mb : PySem.Str → Option Value} {mean : ExcName → Option Value} {loose : List PySem.Str} {s : Shared} {Q E : Value → Shared → Prop} {news : List (Addr × Obj)}
variable (B : Below A₀ base outer h₀) (F : Fr h₀ L s.heap m) (X : (hd.heap_39 w.params).In h₀) (T : Top hd.view_39 loose mean mg mb h₀) (hk : cs.kind = .function)
include B F X T hk
abbrev dpD (w : World) (nm : Array UInt8) (D : Addr) (t1 t2 t3 : Tok) : Obj :=
  dictOf [{ hash := PyData.keyHash w.params "fingerprint", key := .str "fingerprint" t1, val := .bytes nm t3 }, { hash := PyData.keyHash w.params "derivation", key := .str "derivation" t2, val := .ref D }] 2
/-- the path written into an empty stream -/
theorem wto_c {nm : Array UInt8} {ns : List Int} {vs : List Value} {k : Nat} {t1 t2 t3 t4 t5 t6 : Tok} {x dx bx y dy D : Addr} (hdp : dp + 4 < recursionLimit) (hu : un + 34 < cLine)
    (e1 : @LT.lt Nat _ dx x) (e2 : @LT.lt Nat _ x bx) (o1 : ∀ p ∈ (y, instObj 748 dy) :: (dy, dpD w nm D t4 t5 t6) :: (D, ({ cls := .type "list", data := .seq vs.toArray k } : Obj)) :: news, p.1 ≠ dx) (o2 : ∀ p ∈ (y, instObj 748 dy) :: (dy, dpD w nm D t4 t5 t6) :: (D, ({ cls := .type "list", data := .seq vs.toArray k } : Obj)) :: news, p.1 ≠ bx)
    (N : News h₀ L s.heap ((bx, baObj #[]) :: (x, instObj 360 dx) :: (dx, bioD w bx 0 t1 t2 t3) :: (y, instObj 748 dy) :: (dy, dpD w nm D t4 t5 t6) :: (D, ({ cls := .type "list", data := .seq vs.toArray k } : Obj)) :: news))
    (hnm : nm.size = 4) (hv : IntsAre vs ns) (hns : ns.length ≤ 100) (hb : ∀ n ∈ ns, 0 ≤ n ∧ n < 4294967296)
    (hret : ∀ (v : Value) (t7 : Tok) (h' : Heap) (tk' : Nat), Fr h₀ L h' m → News h₀ L h' ((bx, baObj (octs nm ns ns.length)) :: (x, instObj 360 dx) :: (dx, bioD w bx ((4 + 4 * ns.length : Nat) : Int) t1 t2 t7) :: (y, instObj 748 dy) :: (dy, dpD w nm D t4 t5 t6) :: (D, ({ cls := .type "list", data := .seq vs.toArray k } : Obj)) :: news) → Q v { s with heap := h', toks := tk' }) :
    codeN (model PySem.Challenge.rw_ci0003_01.row.prog w) (ktrTop dp un (some []) cn cs L a ccd cl outer) (.call (.ref 735) ⟨[.ref y, .ref x], []⟩) (fun r s' => match r with | .ok (.ret v) => Q v s' | .ok _ => False | .error e => E e s') s := by
  revert X; k_fill; intro X
  k_dflt (first | (refine' code_defN ?k1 ?k2 ?k3 ?k4 ?k5 ?kA ?kF ?kK ?k6 ?k7 ?k8 ?k9 ?kB ?_ ?c2 ?c3 ?c4 ?c5; (case kA => exact rfl); (case kF => exact rfl); (case kK => first | assumption | exact rfl); (case k1 => k_asm); (case k2 => k_asm); (case k3 => k_asm); (case k4 => k_asm); (case k5 => k_asm); (case k6 => k_is); (case k7 => k_is); (case k8 => ktr_room); (case k9 => first | exact BindsTo.of_eq rfl | exact binds_K (by k_in) rfl (by k_is) rfl rfl rfl); (case c5 => decide); (case kB => exact locs rfl); (case c2 => exact rfl); (case c3 => exact rfl); (case c4 => exact rfl); k_whole; intro g' L' h' FG' F' N' B' X' T'; (try dsimp only); (try k_lift B'); (try k_fold)) | (refine' code_def ?k1 ?k2 ?k3 ?k4 ?k5 ?kA ?kF ?kK ?k6 ?k7 ?k8 ?k9 ?kB ?_ ?c2 ?c3 ?c4 ?c5; (case kA => exact rfl); (case kF => exact rfl); (case kK => first | assumption | exact rfl); (case k1 => k_asm); (case k2 => k_asm); (case k3 => k_asm); (case k4 => k_asm); (case k5 => k_asm); (case k6 => k_is); (case k7 => k_is); (case k8 => ktr_room); (case k9 => first | exact BindsTo.of_eq rfl | exact binds_K (by k_in) rfl (by k_is) rfl rfl rfl); (case c5 => decide); (case kB => exact locs rfl); (case c2 => exact rfl); (case c3 => exact rfl); (case c4 => exact rfl); k_whole; intro g' L' h' FG' F' N' B' X' T'; (try dsimp only); (try k_lift B'); (try k_fold)) | (kp_kind "both"; (refine' kp_both ?k1 ?k2 ?k3 ?k4 ?k5 ?kA ?kF ?kK ?k6 ?k7 ?k8 ?kV ?kX ?kQ ?kM ?kN ?kD ?kR ?kP ?kS ?kT ?kB ?_ ?c2 ?c3 ?c4 ?c5; (case kA => exact rfl); (case kF => exact rfl); (case kK => first | assumption | exact rfl); (case k1 => k_asm); (case k2 => k_asm); (case k3 => k_asm); (case k4 => k_asm); (case k5 => k_asm); (case k6 => k_is); (case k7 => k_is); (case k8 => ktr_room); (case kV => kp_lit); (case kX => kp_lit); (case kQ => exact rfl); (case kM => exact rfl); (case kN => exact rfl); (case kD => kp_flats); (case kR => exact rfl); (case kP => exact rfl); (case kS => exact fun _ => rfl); (case kT => exact fun _ _ => rfl); (case kB => exact fun _ _ => locs rfl); (case c5 => decide); (case c2 => exact rfl); (case c3 => exact rfl); (case c4 => exact rfl); k_whole; intro C' D' o' g' L' h' tk' l1 l2 lo' hs' fs' FG' F' N' B' X' T'; (try k_lt l1); (try k_lt2 l2); (try dsimp only); (try k_lift B'); (try k_fold))))
  refine N_cons (N_Assign_Name ?_)
  refine N_Call_Meth ?_
  k_steps
  refine N_callWith_p (keeps_N (K := hd.heap_39 w.params) (f := .ref 343) (by k_is)) ?_
  k_steps
  refine write_c (by k_asm) (by k_asm) (by k_in) (by k_asm) rfl (by ktr_room) (by ktr_units) e1 e2 o1 o2 (by k_asm) rfl ?_ ?_ ?_
  · rw [hnm]; decide
  · rw [hnm]; decide
  rintro u1 u2 h5 k5 F5 N5
  k_steps
  rename News _ _ _ _ => N6
  rename Fr _ _ _ _ => F6
  refine N_cons (N_For (by k_asm) (D := D) (vs := vs) (k := k) (fun i m₁ n₁ => (∃ (rv : Int) (tr : Tok) (u : PySem.Str → Option Value), m₁ = fun z => if z = PySem.Str.ofString "r" then some (.int rv tr) else if z = PySem.Str.ofString "stream" then some (.ref x) else u z) ∧ ∃ (t7 : Tok), n₁ = (bx, baObj (octs nm ns i)) :: (x, instObj 360 dx) :: (dx, bioD w bx ((4 + 4 * i : Nat) : Int) t1 t2 t7) :: (y, instObj 748 dy) :: (dy, dpD w nm D t4 t5 t6) :: (D, ({ cls := .type "list", data := .seq vs.toArray k } : Obj)) :: news) (by rfl) (by rfl) (by rfl) ?hD (by intro _; rfl) ?_)
  case hD =>
    rintro i m₁ n₁ ⟨_, _, rfl⟩
    exact .tail _ (.tail _ (.tail _ (.tail _ (.tail _ (.head _)))))
  k_steps
  unfold Stop
  have z0 : #[] ++ nm = octs nm ns 0 := by rw [octs_zero]; simp
  rw [z0, hnm] at N6
  refine ⟨_, _, F6, N6, ⟨⟨_, u2, _, m_under (by rfl)⟩, u1, rfl⟩, ?_, ?_⟩
  · rintro i v m₁ n₁ I oI h tk hv' ⟨⟨rv, tr, u, rfl⟩, t7, rfl⟩ ha hne F9 N9
    obtain ⟨n, t2', rfl, hn⟩ := IntsAre.at hv i v hv'
    obtain ⟨b0, b1⟩ := hb n (List.mem_of_getElem? hn)
    dsimp only [envOf] at F9 N9
    refine N_cons (N_AugAssign_Name ?_)
    k_steps
    refine N_Call_Meth ?_
    k_steps
    refine N_callWith_p (keeps_N (K := hd.heap_39 w.params) (f := .ref 343) (by k_is)) ?_
    k_steps
    rename_i b4 t4' k4
    obtain rfl := le4_of (n := n) ktbIn
    have hi : i < ns.length := (List.getElem?_eq_some_iff.mp hn).1
    have hsz := octs_size nm ns i (Nat.le_of_lt hi)
    refine write_c (by k_asm) (by k_asm) (by k_in) (by k_asm) rfl (by ktr_room) (by ktr_units) e1 e2 (off_cons (fun q => hne (dx, _) (.tail _ (.tail _ (.head _))) q.symm) o1) (off_cons (fun q => hne (bx, _) (.head _) q.symm) o2) (led_back N9) (by rw [hsz, hnm]) (by show 0 < 4; decide) (by rw [hsz, hnm]; show 4 + 4 * i + 4 ≤ 100000; omega) ?_
    rintro v1 v2 h7 k7 F7 N7
    rw [← octs_succ hn] at N7
    have e7 : ((4 + 4 * i : Nat) : Int) + ((le4 n).toArray.size : Int) = ((4 + 4 * (i + 1) : Nat) : Int) := by
      show ((4 + 4 * i : Nat) : Int) + ((4 : Nat) : Int) = _
      omega
    rw [e7] at N7
    k_steps
    rename News _ _ _ _ => N8
    rename Fr _ _ _ _ => F8
    exact N_nil (TurnEnd.mk F8 (led_fore N8) rfl ⟨⟨_, _, _, m_swap (by decide)⟩, v1, rfl⟩)
  · rintro m₁ n₁ h tk ⟨⟨rv, tr, u, rfl⟩, t7, rfl⟩ ha F9 N9
    dsimp only [envOf] at F9 N9
    rw [hv.length] at N9
    refine N_pre ?_
    k_steps
    rename News _ _ _ _ => N8
    rename Fr _ _ _ _ => F8
    exact hret _ _ _ _ F8 N8
end
end
section
local macro_rules | `(tactic| walk_at "True") => `(tactic| trivial)
theorem anew_Dpn : True := by
  w_top off
  walk1
end
/-! Dpn -/
section
open PySem PySem.W PyProof.Rows PySem.Calls
section
variable {w : World} {dp un : Nat} {cn : PySem.Str} {cs : Scope} {a : Addr} {ccd : Value} {cl : List (PySem.Str × Addr)} {outer : List Env} {A₀ : Around} {base h₀ : Heap} {L : Addr} {m mg mb : PySem.Str → Option Value} {mean : ExcName → Option Value} {loose : List PySem.Str} {s : Shared} {Q E : Value → Shared → Prop} {news : List (Addr × Obj)}
variable (B : Below A₀ base outer h₀) (F : Fr h₀ L s.heap m) (X : (hd.heap_39 w.params).In h₀) (N : News h₀ L s.heap news) (T : Top hd.view_39 loose mean mg mb h₀) (hk : cs.kind = .function)
include B F X N T hk
/-- a path made of a fingerprint and a list -/
theorem dp_c {nm : Array UInt8} {t : Tok} {D : Addr} (hdp : dp + 3 < recursionLimit) (hu : un + 24 < cLine)
    (hret : ∀ (y dy : Addr) (t4 t5 : Tok) (h' : Heap) (tk' : Nat), Fr h₀ L h' m → News h₀ L h' ((y, instObj 748 dy) :: (dy, dpD w nm D t4 t5 t) :: news) → (∀ p ∈ news, p.1 < dy) → @LT.lt Nat _ dy y → Q (.ref y) { s with heap := h', toks := tk' }) :
    wpAny (model PySem.Challenge.rw_ci0003_01.row.prog w) (ktrTop dp un (some []) cn cs L a ccd cl outer) (call (.ref 748) [.bytes nm t, .ref D]) Q E s := by
  revert X; k_fill; intro X
  k_dflt (refine' call_cls ?k1 ?k2 ?k3 ?k4 ?k5 ?k6 ?_; (case k1 => k_asm); (case k2 => k_asm); (case k3 => k_asm); (case k4 => k_is); (case k5 => k_is); (case k6 => k_is); k_whole)
  rintro y dy h2 F2 N2 l1 l2
  have l3 := ltN l2
  k_dflt (first | (refine' code_defN ?k1 ?k2 ?k3 ?k4 ?k5 ?kA ?kF ?kK ?k6 ?k7 ?k8 ?k9 ?kB ?_ ?c2 ?c3 ?c4 ?c5; (case kA => exact rfl); (case kF => exact rfl); (case kK => first | assumption | exact rfl); (case k1 => k_asm); (case k2 => k_asm); (case k3 => k_asm); (case k4 => k_asm); (case k5 => k_asm); (case k6 => k_is); (case k7 => k_is); (case k8 => ktr_room); (case k9 => first | exact BindsTo.of_eq rfl | exact binds_K (by k_in) rfl (by k_is) rfl rfl rfl); (case c5 => decide); (case kB => exact locs rfl); (case c2 => exact rfl); (case c3 => exact rfl); (case c4 => exact rfl); k_whole; intro g' L' h' FG' F' N' B' X' T'; (try dsimp only); (try k_lift B'); (try k_fold)) | (refine' code_def ?k1 ?k2 ?k3 ?k4 ?k5 ?kA ?kF ?kK ?k6 ?k7 ?k8 ?k9 ?kB ?_ ?c2 ?c3 ?c4 ?c5; (case kA => exact rfl); (case kF => exact rfl); (case kK => first | assumption | exact rfl); (case k1 => k_asm); (case k2 => k_asm); (case k3 => k_asm); (case k4 => k_asm); (case k5 => k_asm); (case k6 => k_is); (case k7 => k_is); (case k8 => ktr_room); (case k9 => first | exact BindsTo.of_eq rfl | exact binds_K (by k_in) rfl (by k_is) rfl rfl rfl); (case c5 => decide); (case kB => exact locs rfl); (case c2 => exact rfl); (case c3 => exact rfl); (case c4 => exact rfl); k_whole; intro g' L' h' FG' F' N' B' X' T'; (try dsimp only); (try k_lift B'); (try k_fold)) | (kp_kind "both"; (refine' kp_both ?k1 ?k2 ?k3 ?k4 ?k5 ?kA ?kF ?kK ?k6 ?k7 ?k8 ?kV ?kX ?kQ ?kM ?kN ?kD ?kR ?kP ?kS ?kT ?kB ?_ ?c2 ?c3 ?c4 ?c5; (case kA => exact rfl); (case kF => exact rfl); (case kK => first | assumption | exact rfl); (case k1 => k_asm); (case k2 => k_asm); (case k3 => k_asm); (case k4 => k_asm); (case k5 => k_asm); (case k6 => k_is); (case k7 => k_is); (case k8 => ktr_room); (case kV => kp_lit); (case kX => kp_lit); (case kQ => exact rfl); (case kM => exact rfl); (case kN => exact rfl); (case kD => kp_flats); (case kR => exact rfl); (case kP => exact rfl); (case kS => exact fun _ => rfl); (case kT => exact fun _ _ => rfl); (case kB => exact fun _ _ => locs rfl); (case c5 => decide); (case c2 => exact rfl); (case c3 => exact rfl); (case c4 => exact rfl); k_whole; intro C' D' o' g' L' h' tk' l1 l2 lo' hs' fs' FG' F' N' B' X' T'; (try k_lt l1); (try k_lt2 l2); (try dsimp only); (try k_lift B'); (try k_fold))))
  k_steps
  rename News _ _ _ _ => N9
  rename Fr _ _ _ _ => F9
  exact hret y dy _ _ _ _ F9 N9 l1 l3
end
end
/-! Ser -/
section
open PySem PySem.W PyProof.Rows PySem.Calls
section
variable {w : World} {dp un : Nat} {cn : PySem.Str} {cs : Scope} {a : Addr} {ccd : Value} {cl : List (PySem.Str × Addr)} {outer : List Env} {A₀ : Around} {base h₀ : Heap} {L : Addr} {m mg mb : PySem.Str → Option Value} {mean : ExcName → Option Value} {loose : List PySem.Str} {s : Shared} {Q E : Value → Shared → Prop} {news : List (Addr × Obj)}
variable (B : Below A₀ base outer h₀) (F : Fr h₀ L s.heap m) (X : (hd.heap_39 w.params).In h₀) (T : Top hd.view_39 loose mean mg mb h₀) (hk : cs.kind = .function)
include B F X T hk
local macro_rules | `(tactic| walk_at "call type:bytes") => `(tactic| (k_here; refine Stop.go ?_))
/-- the path written out whole -/
theorem ser_c {nm : Array UInt8} {ns : List Int} {vs : List Value} {k : Nat} {t4 t5 t6 : Tok} {y dy D : Addr} (hdp : dp + 5 < recursionLimit) (hu : un + 44 < cLine)
    (N : News h₀ L s.heap ((y, instObj 748 dy) :: (dy, dpD w nm D t4 t5 t6) :: (D, ({ cls := .type "list", data := .seq vs.toArray k } : Obj)) :: news))
    (hnm : nm.size = 4) (hv : IntsAre vs ns) (hns : ns.length ≤ 100) (hb : ∀ n ∈ ns, 0 ≤ n ∧ n < 4294967296)
    (hret : ∀ (t7 : Tok) (h' : Heap) (tk' : Nat), Fr h₀ L h' m → News h₀ L h' ((y, instObj 748 dy) :: (dy, dpD w nm D t4 t5 t6) :: (D, ({ cls := .type "list", data := .seq vs.toArray k } : Obj)) :: news) → Q (.bytes (octs nm ns ns.length) t7) { s with heap := h', toks := tk' }) :
    wpN (model PySem.Challenge.rw_ci0003_01.row.prog w) (ktrTop dp un (some []) cn cs L a ccd cl outer) (call (.ref 650) [.ref y]) Q E s := by
  revert X; k_fill; intro X
  refine wpN_call ?_
  k_dflt (refine' code_starN ?k1 ?k2 ?k3 ?k4 ?k5 ?kA ?kF ?kK ?k6 ?k7 ?k8 ?kV ?kQ ?kM ?kR ?kP ?kS ?kT ?kB ?_ ?c2 ?c3 ?c4 ?c5; (case kA => exact rfl); (case kF => exact rfl); (case kK => first | assumption | exact rfl); (case k1 => k_asm); (case k2 => k_asm); (case k3 => k_asm); (case k4 => k_asm); (case k5 => k_asm); (case k6 => k_is); (case k7 => k_is); (case k8 => ktr_room); (case kV => kp_lit); (case kQ => exact rfl); (case kM => exact rfl); (case kR => exact rfl); (case kP => exact rfl); (case kS => exact fun _ => rfl); (case kT => exact fun _ _ => rfl); (case kB => exact fun _ _ => locs rfl); (case c5 => decide); (case c2 => exact rfl); (case c3 => exact rfl); (case c4 => exact rfl); k_whole; intro C1 D1 g1 L1 h1 tk1 l1 l2 lo1 FG1 F1 N1 B1 X1 T1; (try k_lt l1); (try k_lt2 l2); (try dsimp only); (try k_lift B1); (try k_fold))
  refine N_cons (N_Assign_Name ?_)
  refine N_Call_Name ?_
  k_steps
  refine N_callWith_0 (keeps_N (K := hd.heap_39 w.params) (f := .ref 360) (by k_is)) (X1.keeps F1.keep) ?_
  refine bio_c0 B1 F1 X1 N1 T1 rfl (by ktr_room) (by ktr_units) ?_
  rintro x dx bx t1 t2 t3 h5 k5 F5 N5 l5 l6 l7
  k_steps
  refine N_cons (N_Expr ?_)
  refine N_Call_Attr ?_
  k_steps
  rename_i h6 q1 h7 F7 N7 l8
  refine N_star (C := C1) (D := D1) (keeps_MN (K := hd.heap_39 w.params) (q := q1) (f := 735) (self := .ref y) (by k_is)) ?_
  k_steps
  · exact (N7 (C1, _) (.tail _ (.tail _ (.tail _ (.tail _ (.tail _ (.head _))))))).1
  rename_i h9 hk9
  obtain ⟨F9, N9⟩ := led_keeps F7 N7 hk9
  dsimp only
  k_steps
  · exact (N9 (D1, _) (.tail _ (.tail _ (.tail _ (.tail _ (.head _)))))).1
  refine wpN_call (meth_callN (N9 _ (.head _)).1 ?_)
  have a1 : ∀ p ∈ (D1, dictOf [] 0) :: (C1, tupE) :: (y, instObj 748 dy) :: (dy, dpD w nm D t4 t5 t6) :: (D, ({ cls := .type "list", data := .seq vs.toArray k } : Obj)) :: news, p.1 ≠ dx := fun p hp => Nat.ne_of_lt (l5 p hp)
  have a2 : ∀ p ∈ (D1, dictOf [] 0) :: (C1, tupE) :: (y, instObj 748 dy) :: (dy, dpD w nm D t4 t5 t6) :: (D, ({ cls := .type "list", data := .seq vs.toArray k } : Obj)) :: news, p.1 ≠ bx := fun p hp => Nat.ne_of_lt (Nat.lt_trans (l5 p hp) (Nat.lt_trans l6 l7))
  refine wto_c (news := (q1, methodObj (.ref 735) (.ref y)) :: (D1, dictOf [] 0) :: (C1, tupE) :: news) (D := D) (dy := dy) (k := k) (t1 := t1) (t2 := t2) (t3 := t3) (t4 := t4) (t5 := t5) (t6 := t6) B1 F9 X1 T1 rfl (by ktr_room) (by ktr_units) l6 l7 ?_ ?_ ?_ hnm hv hns hb ?_
  · repeat (refine each (by first | exact a1 _ (by k_mem) | exact Nat.ne_of_gt l8.2.2.1) ?_)
    exact fun p hp => a1 _ (by repeat (first | exact hp | apply List.Mem.tail))
  · repeat (refine each (by first | exact a2 _ (by k_mem) | exact Nat.ne_of_gt l8.1) ?_)
    exact fun p hp => a2 _ (by repeat (first | exact hp | apply List.Mem.tail))
  · refine led_sub N9 ?_
    repeat (refine subl_cons (by k_mem) ?_)
    exact fun p hp => by repeat (first | exact hp | apply List.Mem.tail)
  rintro v u7 h10 k10 F10 N10
  k_steps
  refine N_pre ?_
  k_steps
  have hsz := octs_size nm ns ns.length (Nat.le_refl _)
  refine wpAny_call ?_
  k_dflt (first | (refine' code_starN ?k1 ?k2 ?k3 ?k4 ?k5 ?kA ?kF ?kK ?k6 ?k7 ?k8 ?kV ?kQ ?kM ?kR ?kP ?kS ?kT ?kB ?_ ?c2 ?c3 ?c4 ?c5; (case kA => exact rfl); (case kF => exact rfl); (case kK => first | assumption | exact rfl); (case k1 => k_asm); (case k2 => k_asm); (case k3 => k_asm); (case k4 => k_asm); (case k5 => k_asm); (case k6 => k_is); (case k7 => k_is); (case k8 => ktr_room); (case kV => kp_lit); (case kQ => exact rfl); (case kM => exact rfl); (case kR => exact rfl); (case kP => exact rfl); (case kS => exact fun _ => rfl); (case kT => exact fun _ _ => rfl); (case kB => exact fun _ _ => locs rfl); (case c5 => decide); (case c2 => exact rfl); (case c3 => exact rfl); (case c4 => exact rfl); k_whole; intro C' D' g' L' h' tk' l1 l2 lo' FG' F' N' B' X' T'; (try k_lt l1); (try k_lt2 l2); (try dsimp only); (try k_lift B'); (try k_fold)) | (refine' code_defN ?k1 ?k2 ?k3 ?k4 ?k5 ?kA ?kF ?kK ?k6 ?k7 ?k8 ?k9 ?kB ?_ ?c2 ?c3 ?c4 ?c5; (case kA => exact rfl); (case kF => exact rfl); (case kK => first | assumption | exact rfl); (case k1 => k_asm); (case k2 => k_asm); (case k3 => k_asm); (case k4 => k_asm); (case k5 => k_asm); (case k6 => k_is); (case k7 => k_is); (case k8 => ktr_room); (case k9 => first | exact BindsTo.of_eq rfl | exact binds_K (by k_in) rfl (by k_is) rfl rfl rfl); (case c5 => decide); (case kB => exact locs rfl); (case c2 => exact rfl); (case c3 => exact rfl); (case c4 => exact rfl); k_whole; intro g' L' h' FG' F' N' B' X' T'; (try dsimp only); (try k_lift B'); (try k_fold)) | (refine' code_def ?k1 ?k2 ?k3 ?k4 ?k5 ?kA ?kF ?kK ?k6 ?k7 ?k8 ?k9 ?kB ?_ ?c2 ?c3 ?c4 ?c5; (case kA => exact rfl); (case kF => exact rfl); (case kK => first | assumption | exact rfl); (case k1 => k_asm); (case k2 => k_asm); (case k3 => k_asm); (case k4 => k_asm); (case k5 => k_asm); (case k6 => k_is); (case k7 => k_is); (case k8 => ktr_room); (case k9 => first | exact BindsTo.of_eq rfl | exact binds_K (by k_in) rfl (by k_is) rfl rfl rfl); (case c5 => decide); (case kB => exact locs rfl); (case c2 => exact rfl); (case c3 => exact rfl); (case c4 => exact rfl); k_whole; intro g' L' h' FG' F' N' B' X' T'; (try dsimp only); (try k_lift B'); (try k_fold)) | (kp_kind "both"; (refine' kp_both ?k1 ?k2 ?k3 ?k4 ?k5 ?kA ?kF ?kK ?k6 ?k7 ?k8 ?kV ?kX ?kQ ?kM ?kN ?kD ?kR ?kP ?kS ?kT ?kB ?_ ?c2 ?c3 ?c4 ?c5; (case kA => exact rfl); (case kF => exact rfl); (case kK => first | assumption | exact rfl); (case k1 => k_asm); (case k2 => k_asm); (case k3 => k_asm); (case k4 => k_asm); (case k5 => k_asm); (case k6 => k_is); (case k7 => k_is); (case k8 => ktr_room); (case kV => kp_lit); (case kX => kp_lit); (case kQ => exact rfl); (case kM => exact rfl); (case kN => exact rfl); (case kD => kp_flats); (case kR => exact rfl); (case kP => exact rfl); (case kS => exact fun _ => rfl); (case kT => exact fun _ _ => rfl); (case kB => exact fun _ _ => locs rfl); (case c5 => decide); (case c2 => exact rfl); (case c3 => exact rfl); (case c4 => exact rfl); k_whole; intro C' D' o' g' L' h' tk' l1 l2 lo' hs' fs' FG' F' N' B' X' T'; (try k_lt l1); (try k_lt2 l2); (try dsimp only); (try k_lift B'); (try k_fold))))
  k_steps
  refine wpAny_call ?_
  k_dflt (first | (refine' code_starN ?k1 ?k2 ?k3 ?k4 ?k5 ?kA ?kF ?kK ?k6 ?k7 ?k8 ?kV ?kQ ?kM ?kR ?kP ?kS ?kT ?kB ?_ ?c2 ?c3 ?c4 ?c5; (case kA => exact rfl); (case kF => exact rfl); (case kK => first | assumption | exact rfl); (case k1 => k_asm); (case k2 => k_asm); (case k3 => k_asm); (case k4 => k_asm); (case k5 => k_asm); (case k6 => k_is); (case k7 => k_is); (case k8 => ktr_room); (case kV => kp_lit); (case kQ => exact rfl); (case kM => exact rfl); (case kR => exact rfl); (case kP => exact rfl); (case kS => exact fun _ => rfl); (case kT => exact fun _ _ => rfl); (case kB => exact fun _ _ => locs rfl); (case c5 => decide); (case c2 => exact rfl); (case c3 => exact rfl); (case c4 => exact rfl); k_whole; intro C' D' g' L' h' tk' l1 l2 lo' FG' F' N' B' X' T'; (try k_lt l1); (try k_lt2 l2); (try dsimp only); (try k_lift B'); (try k_fold)) | (refine' code_defN ?k1 ?k2 ?k3 ?k4 ?k5 ?kA ?kF ?kK ?k6 ?k7 ?k8 ?k9 ?kB ?_ ?c2 ?c3 ?c4 ?c5; (case kA => exact rfl); (case kF => exact rfl); (case kK => first | assumption | exact rfl); (case k1 => k_asm); (case k2 => k_asm); (case k3 => k_asm); (case k4 => k_asm); (case k5 => k_asm); (case k6 => k_is); (case k7 => k_is); (case k8 => ktr_room); (case k9 => first | exact BindsTo.of_eq rfl | exact binds_K (by k_in) rfl (by k_is) rfl rfl rfl); (case c5 => decide); (case kB => exact locs rfl); (case c2 => exact rfl); (case c3 => exact rfl); (case c4 => exact rfl); k_whole; intro g' L' h' FG' F' N' B' X' T'; (try dsimp only); (try k_lift B'); (try k_fold)) | (refine' code_def ?k1 ?k2 ?k3 ?k4 ?k5 ?kA ?kF ?kK ?k6 ?k7 ?k8 ?k9 ?kB ?_ ?c2 ?c3 ?c4 ?c5; (case kA => exact rfl); (case kF => exact rfl); (case kK => first | assumption | exact rfl); (case k1 => k_asm); (case k2 => k_asm); (case k3 => k_asm); (case k4 => k_asm); (case k5 => k_asm); (case k6 => k_is); (case k7 => k_is); (case k8 => ktr_room); (case k9 => first | exact BindsTo.of_eq rfl | exact binds_K (by k_in) rfl (by k_is) rfl rfl rfl); (case c5 => decide); (case kB => exact locs rfl); (case c2 => exact rfl); (case c3 => exact rfl); (case c4 => exact rfl); k_whole; intro g' L' h' FG' F' N' B' X' T'; (try dsimp only); (try k_lift B'); (try k_fold)) | (kp_kind "both"; (refine' kp_both ?k1 ?k2 ?k3 ?k4 ?k5 ?kA ?kF ?kK ?k6 ?k7 ?k8 ?kV ?kX ?kQ ?kM ?kN ?kD ?kR ?kP ?kS ?kT ?kB ?_ ?c2 ?c3 ?c4 ?c5; (case kA => exact rfl); (case kF => exact rfl); (case kK => first | assumption | exact rfl); (case k1 => k_asm); (case k2 => k_asm); (case k3 => k_asm); (case k4 => k_asm); (case k5 => k_asm); (case k6 => k_is); (case k7 => k_is); (case k8 => ktr_room); (case kV => kp_lit); (case kX => kp_lit); (case kQ => exact rfl); (case kM => exact rfl); (case kN => exact rfl); (case kD => kp_flats); (case kR => exact rfl); (case kP => exact rfl); (case kS => exact fun _ => rfl); (case kT => exact fun _ _ => rfl); (case kB => exact fun _ _ => locs rfl); (case c5 => decide); (case c2 => exact rfl); (case c3 => exact rfl); (case c4 => exact rfl); k_whole; intro C' D' o' g' L' h' tk' l1 l2 lo' hs' fs' FG' F' N' B' X' T'; (try k_lt l1); (try k_lt2 l2); (try dsimp only); (try k_lift B'); (try k_fold))))
  k_steps
  refine Stop.mk ?_
  rename News _ _ _ _ => N19
  k_dflt (refine' ba_bytesN N19 ?mem ?fit ?_; (case mem => k_mem); (case fit => (rw [PySem.sizeLine_eq]; omega)))
  k_steps
  rename News _ _ _ _ => N20
  rename Fr _ _ _ _ => F20
  refine hret _ _ _ F20 (led_sub N20 ?_)
  repeat (refine subl_cons (by k_mem) ?_)
  exact fun p hp => by repeat (first | exact hp | apply List.Mem.tail)
end
end
section
section
local macro_rules | `(tactic| walk_at "True") => `(tactic| trivial)
local macro_rules | `(tactic| walk_at "True") => `(tactic| trivial)
theorem anew_EqM : True := by
  w_top off
  walk1
end
/-! EqM -/
section
open PySem PySem.W PyProof.Rows PySem.Calls
section
variable {w : World} {dp un : Nat} {cn : PySem.Str} {cs : Scope} {a : Addr} {ccd : Value} {cl : List (PySem.Str × Addr)} {outer : List Env} {A₀ : Around} {base h₀ : Heap} {L : Addr} {m mg mb : PySem.Str → Option Value} {mean : ExcName → Option Value} {loose : List PySem.Str} {s : Shared} {Q E : Value → Shared → Prop} {news : List (Addr × Obj)}
variable (B : Below A₀ base outer h₀) (F : Fr h₀ L s.heap m) (X : (hd.heap_39 w.params).In h₀) (T : Top hd.view_39 loose mean mg mb h₀) (hk : cs.kind = .function)
include B F X T hk
local macro_rules | `(tactic| walk_at "call builtin:hasattr") => `(tactic| (k_here; refine Stop.go ?_))
/-- two paths compared -/
theorem eq_c {nm nm' : Array UInt8} {ns ns' : List Int} {vs vs' : List Value} {k k' : Nat} {t4 t5 t6 u4 u5 u6 : Tok} {y dy D z dz D' : Addr} (hdp : dp + 6 < recursionLimit) (hu : un + 54 < cLine)
    (N : News h₀ L s.heap ((y, instObj 748 dy) :: (dy, dpD w nm D t4 t5 t6) :: (D, ({ cls := .type "list", data := .seq vs.toArray k } : Obj)) :: (z, instObj 748 dz) :: (dz, dpD w nm' D' u4 u5 u6) :: (D', ({ cls := .type "list", data := .seq vs'.toArray k' } : Obj)) :: news))
    (hnm : nm.size = 4) (hv : IntsAre vs ns) (hns : ns.length ≤ 100) (hb : ∀ n ∈ ns, 0 ≤ n ∧ n < 4294967296)
    (hnm' : nm'.size = 4) (hv' : IntsAre vs' ns') (hns' : ns'.length ≤ 100) (hb' : ∀ n ∈ ns', 0 ≤ n ∧ n < 4294967296)
    (hret : ∀ (h' : Heap) (tk' : Nat), Fr h₀ L h' m → News h₀ L h' ((y, instObj 748 dy) :: (dy, dpD w nm D t4 t5 t6) :: (D, ({ cls := .type "list", data := .seq vs.toArray k } : Obj)) :: (z, instObj 748 dz) :: (dz, dpD w nm' D' u4 u5 u6) :: (D', ({ cls := .type "list", data := .seq vs'.toArray k' } : Obj)) :: news) → Q (.bool ((octs nm ns ns.length).toList == (octs nm' ns' ns'.length).toList)) { s with heap := h', toks := tk' }) :
    wpN (model PySem.Challenge.rw_ci0003_01.row.prog w) (ktrTop dp un (some []) cn cs L a ccd cl outer) (call (.ref 681) [.ref y, .ref z]) Q E s := by
  revert X; k_fill; intro X
  refine wpN_call ?_
  k_dflt (first | (refine' code_starN ?k1 ?k2 ?k3 ?k4 ?k5 ?kA ?kF ?kK ?k6 ?k7 ?k8 ?kV ?kQ ?kM ?kR ?kP ?kS ?kT ?kB ?_ ?c2 ?c3 ?c4 ?c5; (case kA => exact rfl); (case kF => exact rfl); (case kK => first | assumption | exact rfl); (case k1 => k_asm); (case k2 => k_asm); (case k3 => k_asm); (case k4 => k_asm); (case k5 => k_asm); (case k6 => k_is); (case k7 => k_is); (case k8 => ktr_room); (case kV => kp_lit); (case kQ => exact rfl); (case kM => exact rfl); (case kR => exact rfl); (case kP => exact rfl); (case kS => exact fun _ => rfl); (case kT => exact fun _ _ => rfl); (case kB => exact fun _ _ => locs rfl); (case c5 => decide); (case c2 => exact rfl); (case c3 => exact rfl); (case c4 => exact rfl); k_whole; intro C' D' g' L' h' tk' l1 l2 lo' FG' F' N' B' X' T'; (try k_lt l1); (try k_lt2 l2); (try dsimp only); (try k_lift B'); (try k_fold)) | (refine' code_defN ?k1 ?k2 ?k3 ?k4 ?k5 ?kA ?kF ?kK ?k6 ?k7 ?k8 ?k9 ?kB ?_ ?c2 ?c3 ?c4 ?c5; (case kA => exact rfl); (case kF => exact rfl); (case kK => first | assumption | exact rfl); (case k1 => k_asm); (case k2 => k_asm); (case k3 => k_asm); (case k4 => k_asm); (case k5 => k_asm); (case k6 => k_is); (case k7 => k_is); (case k8 => ktr_room); (case k9 => first | exact BindsTo.of_eq rfl | exact binds_K (by k_in) rfl (by k_is) rfl rfl rfl); (case c5 => decide); (case kB => exact locs rfl); (case c2 => exact rfl); (case c3 => exact rfl); (case c4 => exact rfl); k_whole; intro g' L' h' FG' F' N' B' X' T'; (try dsimp only); (try k_lift B'); (try k_fold)) | (refine' code_def ?k1 ?k2 ?k3 ?k4 ?k5 ?kA ?kF ?kK ?k6 ?k7 ?k8 ?k9 ?kB ?_ ?c2 ?c3 ?c4 ?c5; (case kA => exact rfl); (case kF => exact rfl); (case kK => first | assumption | exact rfl); (case k1 => k_asm); (case k2 => k_asm); (case k3 => k_asm); (case k4 => k_asm); (case k5 => k_asm); (case k6 => k_is); (case k7 => k_is); (case k8 => ktr_room); (case k9 => first | exact BindsTo.of_eq rfl | exact binds_K (by k_in) rfl (by k_is) rfl rfl rfl); (case c5 => decide); (case kB => exact locs rfl); (case c2 => exact rfl); (case c3 => exact rfl); (case c4 => exact rfl); k_whole; intro g' L' h' FG' F' N' B' X' T'; (try dsimp only); (try k_lift B'); (try k_fold)) | (kp_kind "both"; (refine' kp_both ?k1 ?k2 ?k3 ?k4 ?k5 ?kA ?kF ?kK ?k6 ?k7 ?k8 ?kV ?kX ?kQ ?kM ?kN ?kD ?kR ?kP ?kS ?kT ?kB ?_ ?c2 ?c3 ?c4 ?c5; (case kA => exact rfl); (case kF => exact rfl); (case kK => first | assumption | exact rfl); (case k1 => k_asm); (case k2 => k_asm); (case k3 => k_asm); (case k4 => k_asm); (case k5 => k_asm); (case k6 => k_is); (case k7 => k_is); (case k8 => ktr_room); (case kV => kp_lit); (case kX => kp_lit); (case kQ => exact rfl); (case kM => exact rfl); (case kN => exact rfl); (case kD => kp_flats); (case kR => exact rfl); (case kP => exact rfl); (case kS => exact fun _ => rfl); (case kT => exact fun _ _ => rfl); (case kB => exact fun _ _ => locs rfl); (case c5 => decide); (case c2 => exact rfl); (case c3 => exact rfl); (case c4 => exact rfl); k_whole; intro C' D' o' g' L' h' tk' l1 l2 lo' hs' fs' FG' F' N' B' X' T'; (try k_lt l1); (try k_lt2 l2); (try dsimp only); (try k_lift B'); (try k_fold))))
  refine N_pre ?_
  k_steps
  refine Stop.mk ?_
  k_dflt (refine' has_meth ?k1 ?k2 ?k3 ?k4 ?k5 ?k6 ?k7 ?k8 ?k9 ?k10 ?k11 ?k12 ?k13 ?_; (case k1 => k_asm); (case k2 => k_asm); (case k3 => k_asm); (case k4 => k_inst); (case k5 => k_is); (case k6 => k_is); (case k7 => k_is); (case k8 => k_is); (case k9 => k_is); (case k10 => k_is); (case k11 => decide +kernel); (case k12 => k_get); (case k13 => k_is); k_whole)
  intro h9 F9 N9
  k_steps
  rename Top _ _ _ _ _ _ => T1
  rename Frag.In _ _ => X1
  rename Below _ _ _ _ => B1
  refine N_cons (N_Return (N_Compare1 ?_))
  refine N_Call_Meth ?_
  k_steps
  rename News _ _ _ _ => N1
  rename Fr _ _ _ _ => F1
  refine N_callWith_0 (keeps_N (K := hd.heap_39 w.params) (f := .ref 650) (by k_is)) (X1.keeps F1.keep) ?_
  refine ser_c B1 F1 X1 T1 rfl (by ktr_room) (by ktr_units) N1 hnm hv hns hb ?_
  rintro w7 h5 k5 F5 N5
  refine N_Call_Meth ?_
  k_steps
  rename News _ _ _ _ => N6
  rename Fr _ _ _ _ => F6
  refine N_callWith_0 (keeps_N (K := hd.heap_39 w.params) (f := .ref 650) (by k_is)) (X1.keeps F6.keep) ?_
  refine ser_c (y := z) (dy := dz) (D := D') (k := k') (t4 := u4) (t5 := u5) (t6 := u6) (news := (y, instObj 748 dy) :: (dy, dpD w nm D t4 t5 t6) :: (D, ({ cls := .type "list", data := .seq vs.toArray k } : Obj)) :: news) B1 F6 X1 T1 rfl (by ktr_room) (by ktr_units) (led_sub N6 ?_) hnm' hv' hns' hb' ?_
  · repeat (refine subl_cons (by k_mem) ?_)
    exact fun p hp => by repeat (first | exact hp | apply List.Mem.tail)
  rintro w8 h7 k7 F7 N7
  refine wpN_lift ?_
  k_steps
  rename News _ _ _ _ => N20
  rename Fr _ _ _ _ => F20
  refine hret _ _ F20 (led_sub N20 ?_)
  repeat (refine subl_cons (by k_mem) ?_)
  exact fun p hp => by repeat (first | exact hp | apply List.Mem.tail)
/-- two paths compared -/
theorem ne_c {nm nm' : Array UInt8} {ns ns' : List Int} {vs vs' : List Value} {k k' : Nat} {t4 t5 t6 u4 u5 u6 : Tok} {y dy D z dz D' : Addr} (hdp : dp + 7 < recursionLimit) (hu : un + 58 < cLine)
    (N : News h₀ L s.heap ((y, instObj 748 dy) :: (dy, dpD w nm D t4 t5 t6) :: (D, ({ cls := .type "list", data := .seq vs.toArray k } : Obj)) :: (z, instObj 748 dz) :: (dz, dpD w nm' D' u4 u5 u6) :: (D', ({ cls := .type "list", data := .seq vs'.toArray k' } : Obj)) :: news))
    (hnm : nm.size = 4) (hv : IntsAre vs ns) (hns : ns.length ≤ 100) (hb : ∀ n ∈ ns, 0 ≤ n ∧ n < 4294967296)
    (hnm' : nm'.size = 4) (hv' : IntsAre vs' ns') (hns' : ns'.length ≤ 100) (hb' : ∀ n ∈ ns', 0 ≤ n ∧ n < 4294967296)
    (hret : ∀ (h' : Heap) (tk' : Nat), Fr h₀ L h' m → News h₀ L h' ((y, instObj 748 dy) :: (dy, dpD w nm D t4 t5 t6) :: (D, ({ cls := .type "list", data := .seq vs.toArray k } : Obj)) :: (z, instObj 748 dz) :: (dz, dpD w nm' D' u4 u5 u6) :: (D', ({ cls := .type "list", data := .seq vs'.toArray k' } : Obj)) :: news) → Q (.bool (!((octs nm ns ns.length).toList == (octs nm' ns' ns'.length).toList))) { s with heap := h', toks := tk' }) :
    wpN (model PySem.Challenge.rw_ci0003_01.row.prog w) (ktrTop dp un (some []) cn cs L a ccd cl outer) (call (.ref 688) [.ref y, .ref z]) Q E s := by
  revert X; k_fill; intro X
  refine wpN_call ?_
  k_dflt (first | (refine' code_starN ?k1 ?k2 ?k3 ?k4 ?k5 ?kA ?kF ?kK ?k6 ?k7 ?k8 ?kV ?kQ ?kM ?kR ?kP ?kS ?kT ?kB ?_ ?c2 ?c3 ?c4 ?c5; (case kA => exact rfl); (case kF => exact rfl); (case kK => first | assumption | exact rfl); (case k1 => k_asm); (case k2 => k_asm); (case k3 => k_asm); (case k4 => k_asm); (case k5 => k_asm); (case k6 => k_is); (case k7 => k_is); (case k8 => ktr_room); (case kV => kp_lit); (case kQ => exact rfl); (case kM => exact rfl); (case kR => exact rfl); (case kP => exact rfl); (case kS => exact fun _ => rfl); (case kT => exact fun _ _ => rfl); (case kB => exact fun _ _ => locs rfl); (case c5 => decide); (case c2 => exact rfl); (case c3 => exact rfl); (case c4 => exact rfl); k_whole; intro C' D' g' L' h' tk' l1 l2 lo' FG' F' N' B' X' T'; (try k_lt l1); (try k_lt2 l2); (try dsimp only); (try k_lift B'); (try k_fold)) | (refine' code_defN ?k1 ?k2 ?k3 ?k4 ?k5 ?kA ?kF ?kK ?k6 ?k7 ?k8 ?k9 ?kB ?_ ?c2 ?c3 ?c4 ?c5; (case kA => exact rfl); (case kF => exact rfl); (case kK => first | assumption | exact rfl); (case k1 => k_asm); (case k2 => k_asm); (case k3 => k_asm); (case k4 => k_asm); (case k5 => k_asm); (case k6 => k_is); (case k7 => k_is); (case k8 => ktr_room); (case k9 => first | exact BindsTo.of_eq rfl | exact binds_K (by k_in) rfl (by k_is) rfl rfl rfl); (case c5 => decide); (case kB => exact locs rfl); (case c2 => exact rfl); (case c3 => exact rfl); (case c4 => exact rfl); k_whole; intro g' L' h' FG' F' N' B' X' T'; (try dsimp only); (try k_lift B'); (try k_fold)) | (refine' code_def ?k1 ?k2 ?k3 ?k4 ?k5 ?kA ?kF ?kK ?k6 ?k7 ?k8 ?k9 ?kB ?_ ?c2 ?c3 ?c4 ?c5; (case kA => exact rfl); (case kF => exact rfl); (case kK => first | assumption | exact rfl); (case k1 => k_asm); (case k2 => k_asm); (case k3 => k_asm); (case k4 => k_asm); (case k5 => k_asm); (case k6 => k_is); (case k7 => k_is); (case k8 => ktr_room); (case k9 => first | exact BindsTo.of_eq rfl | exact binds_K (by k_in) rfl (by k_is) rfl rfl rfl); (case c5 => decide); (case kB => exact locs rfl); (case c2 => exact rfl); (case c3 => exact rfl); (case c4 => exact rfl); k_whole; intro g' L' h' FG' F' N' B' X' T'; (try dsimp only); (try k_lift B'); (try k_fold)) | (kp_kind "both"; (refine' kp_both ?k1 ?k2 ?k3 ?k4 ?k5 ?kA ?kF ?kK ?k6 ?k7 ?k8 ?kV ?kX ?kQ ?kM ?kN ?kD ?kR ?kP ?kS ?kT ?kB ?_ ?c2 ?c3 ?c4 ?c5; (case kA => exact rfl); (case kF => exact rfl); (case kK => first | assumption | exact rfl); (case k1 => k_asm); (case k2 => k_asm); (case k3 => k_asm); (case k4 => k_asm); (case k5 => k_asm); (case k6 => k_is); (case k7 => k_is); (case k8 => ktr_room); (case kV => kp_lit); (case kX => kp_lit); (case kQ => exact rfl); (case kM => exact rfl); (case kN => exact rfl); (case kD => kp_flats); (case kR => exact rfl); (case kP => exact rfl); (case kS => exact fun _ => rfl); (case kT => exact fun _ _ => rfl); (case kB => exact fun _ _ => locs rfl); (case c5 => decide); (case c2 => exact rfl); (case c3 => exact rfl); (case c4 => exact rfl); k_whole; intro C' D' o' g' L' h' tk' l1 l2 lo' hs' fs' FG' F' N' B' X' T'; (try k_lt l1); (try k_lt2 l2); (try dsimp only); (try k_lift B'); (try k_fold))))
  rename Top _ _ _ _ _ _ => T1
  rename Frag.In _ _ => X1
  rename Below _ _ _ _ => B1
  refine N_cons (N_Return (N_Not ?_))
  refine N_Call_Meth ?_
  k_steps
  refine N_callWith_p (keeps_N (K := hd.heap_39 w.params) (f := .ref 681) (by k_is)) ?_
  k_steps
  rename News _ _ _ _ => N1
  rename Fr _ _ _ _ => F1
  refine eq_c B1 F1 X1 T1 rfl (by ktr_room) (by ktr_units) N1 hnm hv hns hb hnm' hv' hns' hb' ?_
  rintro h5 k5 F5 N5
  k_steps
  rename News _ _ _ _ => N20
  rename Fr _ _ _ _ => F20
  exact hret _ _ F20 N20
end
end
section
local macro_rules | `(tactic| walk_at "True") => `(tactic| trivial)
local macro_rules | `(tactic| walk_at "True") => `(tactic| trivial)
theorem anew_Rd : True := by
  w_top off
  walk1
end
/-! Rd -/
section
open PySem PySem.W PyProof.Rows PySem.Calls
section
variable {w : World} {dp un : Nat} {cn : PySem.Str} {cs : Scope} {a : Addr} {ccd : Value} {cl : List (PySem.Str × Addr)} {outer : List Env} {A₀ : Around} {base h₀ : Heap} {L : Addr} {m mg mb : PySem.Str → Option Value} {mean : ExcName → Option Value} {loose : List PySem.Str} {s : Shared} {Q E : Value → Shared → Prop} {news : List (Addr × Obj)}
variable (B : Below A₀ base outer h₀) (F : Fr h₀ L s.heap m) (X : (hd.heap_39 w.params).In h₀) (T : Top hd.view_39 loose mean mg mb h₀) (hk : cs.kind = .function)
include B F X T hk
local macro_rules | `(tactic| walk_at "call type:bytes") => `(tactic| (k_here; (with_reducible show wpAny _ _ (call (Value.type "bytes") [Value.ref _]) _ _ _); (rename News _ _ _ _ => lN'); k_dflt (refine' ba_bytesN lN' ?mem ?fit ?_; (case mem => k_mem); (case fit => (rw [PySem.sizeLine_eq]; omega)))))
/-- nothing is left to read -/
theorem read_end {b : Array UInt8} {i k : Nat} {t t1 t2 t3 : Tok} {x dx bx : Addr} (hdp : dp + 3 < recursionLimit) (hu : un + 24 < cLine)
    (N : News h₀ L s.heap ((bx, baObj b) :: (x, instObj 360 dx) :: (dx, bioD w bx (i : Int) t1 t2 t3) :: news)) (hi : b.size ≤ i) (hz : b.size ≤ 100000) (hk4 : k ≤ 4)
    (hret : ∀ (t5 : Tok) (h' : Heap) (tk' : Nat), Fr h₀ L h' m → News h₀ L h' ((bx, baObj b) :: (x, instObj 360 dx) :: (dx, bioD w bx (i : Int) t1 t2 t3) :: news) → Q (.bytes #[] t5) { s with heap := h', toks := tk' }) :
    wpAny (model PySem.Challenge.rw_ci0003_01.row.prog w) (ktrTop dp un (some []) cn cs L a ccd cl outer) (call (.ref 284) [.ref x, .int (k : Int) t]) Q E s := by
  revert X; k_fill; intro X
  refine wpAny_call ?_
  k_dflt (first | (refine' code_starN ?k1 ?k2 ?k3 ?k4 ?k5 ?kA ?kF ?kK ?k6 ?k7 ?k8 ?kV ?kQ ?kM ?kR ?kP ?kS ?kT ?kB ?_ ?c2 ?c3 ?c4 ?c5; (case kA => exact rfl); (case kF => exact rfl); (case kK => first | assumption | exact rfl); (case k1 => k_asm); (case k2 => k_asm); (case k3 => k_asm); (case k4 => k_asm); (case k5 => k_asm); (case k6 => k_is); (case k7 => k_is); (case k8 => ktr_room); (case kV => kp_lit); (case kQ => exact rfl); (case kM => exact rfl); (case kR => exact rfl); (case kP => exact rfl); (case kS => exact fun _ => rfl); (case kT => exact fun _ _ => rfl); (case kB => exact fun _ _ => locs rfl); (case c5 => decide); (case c2 => exact rfl); (case c3 => exact rfl); (case c4 => exact rfl); k_whole; intro C' D' g' L' h' tk' l1 l2 lo' FG' F' N' B' X' T'; (try k_lt l1); (try k_lt2 l2); (try dsimp only); (try k_lift B'); (try k_fold)) | (refine' code_defN ?k1 ?k2 ?k3 ?k4 ?k5 ?kA ?kF ?kK ?k6 ?k7 ?k8 ?k9 ?kB ?_ ?c2 ?c3 ?c4 ?c5; (case kA => exact rfl); (case kF => exact rfl); (case kK => first | assumption | exact rfl); (case k1 => k_asm); (case k2 => k_asm); (case k3 => k_asm); (case k4 => k_asm); (case k5 => k_asm); (case k6 => k_is); (case k7 => k_is); (case k8 => ktr_room); (case k9 => first | exact BindsTo.of_eq rfl | exact binds_K (by k_in) rfl (by k_is) rfl rfl rfl); (case c5 => decide); (case kB => exact locs rfl); (case c2 => exact rfl); (case c3 => exact rfl); (case c4 => exact rfl); k_whole; intro g' L' h' FG' F' N' B' X' T'; (try dsimp only); (try k_lift B'); (try k_fold)) | (refine' code_def ?k1 ?k2 ?k3 ?k4 ?k5 ?kA ?kF ?kK ?k6 ?k7 ?k8 ?k9 ?kB ?_ ?c2 ?c3 ?c4 ?c5; (case kA => exact rfl); (case kF => exact rfl); (case kK => first | assumption | exact rfl); (case k1 => k_asm); (case k2 => k_asm); (case k3 => k_asm); (case k4 => k_asm); (case k5 => k_asm); (case k6 => k_is); (case k7 => k_is); (case k8 => ktr_room); (case k9 => first | exact BindsTo.of_eq rfl | exact binds_K (by k_in) rfl (by k_is) rfl rfl rfl); (case c5 => decide); (case kB => exact locs rfl); (case c2 => exact rfl); (case c3 => exact rfl); (case c4 => exact rfl); k_whole; intro g' L' h' FG' F' N' B' X' T'; (try dsimp only); (try k_lift B'); (try k_fold)) | (kp_kind "both"; (refine' kp_both ?k1 ?k2 ?k3 ?k4 ?k5 ?kA ?kF ?kK ?k6 ?k7 ?k8 ?kV ?kX ?kQ ?kM ?kN ?kD ?kR ?kP ?kS ?kT ?kB ?_ ?c2 ?c3 ?c4 ?c5; (case kA => exact rfl); (case kF => exact rfl); (case kK => first | assumption | exact rfl); (case k1 => k_asm); (case k2 => k_asm); (case k3 => k_asm); (case k4 => k_asm); (case k5 => k_asm); (case k6 => k_is); (case k7 => k_is); (case k8 => ktr_room); (case kV => kp_lit); (case kX => kp_lit); (case kQ => exact rfl); (case kM => exact rfl); (case kN => exact rfl); (case kD => kp_flats); (case kR => exact rfl); (case kP => exact rfl); (case kS => exact fun _ => rfl); (case kT => exact fun _ _ => rfl); (case kB => exact fun _ _ => locs rfl); (case c5 => decide); (case c2 => exact rfl); (case c3 => exact rfl); (case c4 => exact rfl); k_whole; intro C' D' o' g' L' h' tk' l1 l2 lo' hs' fs' FG' F' N' B' X' T'; (try k_lt l1); (try k_lt2 l2); (try dsimp only); (try k_lift B'); (try k_fold))))
  k_steps
  rename Top _ _ _ _ _ _ => T1
  rename Frag.In _ _ => X1
  rename Below _ _ _ _ => B1
  rename News _ _ _ _ => N1
  rename Fr _ _ _ _ => F1
  refine idx_c B1 F1 X1 N1 T1 rfl (by ktr_room) (by ktr_units) hk4 ?_
  rintro t5 h5 k5 F5 N5
  k_steps
  refine wpAny_call ?_
  k_dflt (first | (refine' code_starN ?k1 ?k2 ?k3 ?k4 ?k5 ?kA ?kF ?kK ?k6 ?k7 ?k8 ?kV ?kQ ?kM ?kR ?kP ?kS ?kT ?kB ?_ ?c2 ?c3 ?c4 ?c5; (case kA => exact rfl); (case kF => exact rfl); (case kK => first | assumption | exact rfl); (case k1 => k_asm); (case k2 => k_asm); (case k3 => k_asm); (case k4 => k_asm); (case k5 => k_asm); (case k6 => k_is); (case k7 => k_is); (case k8 => ktr_room); (case kV => kp_lit); (case kQ => exact rfl); (case kM => exact rfl); (case kR => exact rfl); (case kP => exact rfl); (case kS => exact fun _ => rfl); (case kT => exact fun _ _ => rfl); (case kB => exact fun _ _ => locs rfl); (case c5 => decide); (case c2 => exact rfl); (case c3 => exact rfl); (case c4 => exact rfl); k_whole; intro C' D' g' L' h' tk' l1 l2 lo' FG' F' N' B' X' T'; (try k_lt l1); (try k_lt2 l2); (try dsimp only); (try k_lift B'); (try k_fold)) | (refine' code_defN ?k1 ?k2 ?k3 ?k4 ?k5 ?kA ?kF ?kK ?k6 ?k7 ?k8 ?k9 ?kB ?_ ?c2 ?c3 ?c4 ?c5; (case kA => exact rfl); (case kF => exact rfl); (case kK => first | assumption | exact rfl); (case k1 => k_asm); (case k2 => k_asm); (case k3 => k_asm); (case k4 => k_asm); (case k5 => k_asm); (case k6 => k_is); (case k7 => k_is); (case k8 => ktr_room); (case k9 => first | exact BindsTo.of_eq rfl | exact binds_K (by k_in) rfl (by k_is) rfl rfl rfl); (case c5 => decide); (case kB => exact locs rfl); (case c2 => exact rfl); (case c3 => exact rfl); (case c4 => exact rfl); k_whole; intro g' L' h' FG' F' N' B' X' T'; (try dsimp only); (try k_lift B'); (try k_fold)) | (refine' code_def ?k1 ?k2 ?k3 ?k4 ?k5 ?kA ?kF ?kK ?k6 ?k7 ?k8 ?k9 ?kB ?_ ?c2 ?c3 ?c4 ?c5; (case kA => exact rfl); (case kF => exact rfl); (case kK => first | assumption | exact rfl); (case k1 => k_asm); (case k2 => k_asm); (case k3 => k_asm); (case k4 => k_asm); (case k5 => k_asm); (case k6 => k_is); (case k7 => k_is); (case k8 => ktr_room); (case k9 => first | exact BindsTo.of_eq rfl | exact binds_K (by k_in) rfl (by k_is) rfl rfl rfl); (case c5 => decide); (case kB => exact locs rfl); (case c2 => exact rfl); (case c3 => exact rfl); (case c4 => exact rfl); k_whole; intro g' L' h' FG' F' N' B' X' T'; (try dsimp only); (try k_lift B'); (try k_fold)) | (kp_kind "both"; (refine' kp_both ?k1 ?k2 ?k3 ?k4 ?k5 ?kA ?kF ?kK ?k6 ?k7 ?k8 ?kV ?kX ?kQ ?kM ?kN ?kD ?kR ?kP ?kS ?kT ?kB ?_ ?c2 ?c3 ?c4 ?c5; (case kA => exact rfl); (case kF => exact rfl); (case kK => first | assumption | exact rfl); (case k1 => k_asm); (case k2 => k_asm); (case k3 => k_asm); (case k4 => k_asm); (case k5 => k_asm); (case k6 => k_is); (case k7 => k_is); (case k8 => ktr_room); (case kV => kp_lit); (case kX => kp_lit); (case kQ => exact rfl); (case kM => exact rfl); (case kN => exact rfl); (case kD => kp_flats); (case kR => exact rfl); (case kP => exact rfl); (case kS => exact fun _ => rfl); (case kT => exact fun _ _ => rfl); (case kB => exact fun _ _ => locs rfl); (case c5 => decide); (case c2 => exact rfl); (case c3 => exact rfl); (case c4 => exact rfl); k_whole; intro C' D' o' g' L' h' tk' l1 l2 lo' hs' fs' FG' F' N' B' X' T'; (try k_lt l1); (try k_lt2 l2); (try dsimp only); (try k_lift B'); (try k_fold))))
  k_steps
  rename News _ _ _ _ => N20
  rename Fr _ _ _ _ => F20
  exact hret _ _ _ F20 N20
/-- some octets are read -/
theorem read_some {b : Array UInt8} {i k : Nat} {t t1 t2 t3 : Tok} {x dx bx : Addr} (hdp : dp + 3 < recursionLimit) (hu : un + 24 < cLine)
    (N : News h₀ L s.heap ((bx, baObj b) :: (x, instObj 360 dx) :: (dx, bioD w bx (i : Int) t1 t2 t3) :: news)) (hi : i < b.size) (e1 : @LT.lt Nat _ dx x) (e2 : @LT.lt Nat _ x bx) (o1 : ∀ p ∈ news, p.1 ≠ dx) (hz : b.size ≤ 100000) (hk4 : k ≤ 4)
    (hret : ∀ (t4 t5 : Tok) (h' : Heap) (tk' : Nat), Fr h₀ L h' m → News h₀ L h' ((bx, baObj b) :: (x, instObj 360 dx) :: (dx, bioD w bx ((min (i + k) b.size : Nat) : Int) t1 t2 t4) :: news) → Q (.bytes (Builtin.Bytes.sliced b (i : Int) ((min (i + k) b.size : Nat) : Int) 1) t5) { s with heap := h', toks := tk' }) :
    wpAny (model PySem.Challenge.rw_ci0003_01.row.prog w) (ktrTop dp un (some []) cn cs L a ccd cl outer) (call (.ref 284) [.ref x, .int (k : Int) t]) Q E s := by
  revert X; k_fill; intro X
  refine wpAny_call ?_
  k_dflt (first | (refine' code_starN ?k1 ?k2 ?k3 ?k4 ?k5 ?kA ?kF ?kK ?k6 ?k7 ?k8 ?kV ?kQ ?kM ?kR ?kP ?kS ?kT ?kB ?_ ?c2 ?c3 ?c4 ?c5; (case kA => exact rfl); (case kF => exact rfl); (case kK => first | assumption | exact rfl); (case k1 => k_asm); (case k2 => k_asm); (case k3 => k_asm); (case k4 => k_asm); (case k5 => k_asm); (case k6 => k_is); (case k7 => k_is); (case k8 => ktr_room); (case kV => kp_lit); (case kQ => exact rfl); (case kM => exact rfl); (case kR => exact rfl); (case kP => exact rfl); (case kS => exact fun _ => rfl); (case kT => exact fun _ _ => rfl); (case kB => exact fun _ _ => locs rfl); (case c5 => decide); (case c2 => exact rfl); (case c3 => exact rfl); (case c4 => exact rfl); k_whole; intro C' D' g' L' h' tk' l1 l2 lo' FG' F' N' B' X' T'; (try k_lt l1); (try k_lt2 l2); (try dsimp only); (try k_lift B'); (try k_fold)) | (refine' code_defN ?k1 ?k2 ?k3 ?k4 ?k5 ?kA ?kF ?kK ?k6 ?k7 ?k8 ?k9 ?kB ?_ ?c2 ?c3 ?c4 ?c5; (case kA => exact rfl); (case kF => exact rfl); (case kK => first | assumption | exact rfl); (case k1 => k_asm); (case k2 => k_asm); (case k3 => k_asm); (case k4 => k_asm); (case k5 => k_asm); (case k6 => k_is); (case k7 => k_is); (case k8 => ktr_room); (case k9 => first | exact BindsTo.of_eq rfl | exact binds_K (by k_in) rfl (by k_is) rfl rfl rfl); (case c5 => decide); (case kB => exact locs rfl); (case c2 => exact rfl); (case c3 => exact rfl); (case c4 => exact rfl); k_whole; intro g' L' h' FG' F' N' B' X' T'; (try dsimp only); (try k_lift B'); (try k_fold)) | (refine' code_def ?k1 ?k2 ?k3 ?k4 ?k5 ?kA ?kF ?kK ?k6 ?k7 ?k8 ?k9 ?kB ?_ ?c2 ?c3 ?c4 ?c5; (case kA => exact rfl); (case kF => exact rfl); (case kK => first | assumption | exact rfl); (case k1 => k_asm); (case k2 => k_asm); (case k3 => k_asm); (case k4 => k_asm); (case k5 => k_asm); (case k6 => k_is); (case k7 => k_is); (case k8 => ktr_room); (case k9 => first | exact BindsTo.of_eq rfl | exact binds_K (by k_in) rfl (by k_is) rfl rfl rfl); (case c5 => decide); (case kB => exact locs rfl); (case c2 => exact rfl); (case c3 => exact rfl); (case c4 => exact rfl); k_whole; intro g' L' h' FG' F' N' B' X' T'; (try dsimp only); (try k_lift B'); (try k_fold)) | (kp_kind "both"; (refine' kp_both ?k1 ?k2 ?k3 ?k4 ?k5 ?kA ?kF ?kK ?k6 ?k7 ?k8 ?kV ?kX ?kQ ?kM ?kN ?kD ?kR ?kP ?kS ?kT ?kB ?_ ?c2 ?c3 ?c4 ?c5; (case kA => exact rfl); (case kF => exact rfl); (case kK => first | assumption | exact rfl); (case k1 => k_asm); (case k2 => k_asm); (case k3 => k_asm); (case k4 => k_asm); (case k5 => k_asm); (case k6 => k_is); (case k7 => k_is); (case k8 => ktr_room); (case kV => kp_lit); (case kX => kp_lit); (case kQ => exact rfl); (case kM => exact rfl); (case kN => exact rfl); (case kD => kp_flats); (case kR => exact rfl); (case kP => exact rfl); (case kS => exact fun _ => rfl); (case kT => exact fun _ _ => rfl); (case kB => exact fun _ _ => locs rfl); (case c5 => decide); (case c2 => exact rfl); (case c3 => exact rfl); (case c4 => exact rfl); k_whole; intro C' D' o' g' L' h' tk' l1 l2 lo' hs' fs' FG' F' N' B' X' T'; (try k_lt l1); (try k_lt2 l2); (try dsimp only); (try k_lift B'); (try k_fold))))
  k_steps
  rename Top _ _ _ _ _ _ => T1
  rename Frag.In _ _ => X1
  rename Below _ _ _ _ => B1
  rename News _ _ _ _ => N1
  rename Fr _ _ _ _ => F1
  refine idx_c B1 F1 X1 N1 T1 rfl (by ktr_room) (by ktr_units) hk4 ?_
  rintro t5 h5 k5 F5 N5
  k_steps
  refine wpAny_call ?_
  k_dflt (first | (refine' code_starN ?k1 ?k2 ?k3 ?k4 ?k5 ?kA ?kF ?kK ?k6 ?k7 ?k8 ?kV ?kQ ?kM ?kR ?kP ?kS ?kT ?kB ?_ ?c2 ?c3 ?c4 ?c5; (case kA => exact rfl); (case kF => exact rfl); (case kK => first | assumption | exact rfl); (case k1 => k_asm); (case k2 => k_asm); (case k3 => k_asm); (case k4 => k_asm); (case k5 => k_asm); (case k6 => k_is); (case k7 => k_is); (case k8 => ktr_room); (case kV => kp_lit); (case kQ => exact rfl); (case kM => exact rfl); (case kR => exact rfl); (case kP => exact rfl); (case kS => exact fun _ => rfl); (case kT => exact fun _ _ => rfl); (case kB => exact fun _ _ => locs rfl); (case c5 => decide); (case c2 => exact rfl); (case c3 => exact rfl); (case c4 => exact rfl); k_whole; intro C' D' g' L' h' tk' l1 l2 lo' FG' F' N' B' X' T'; (try k_lt l1); (try k_lt2 l2); (try dsimp only); (try k_lift B'); (try k_fold)) | (refine' code_defN ?k1 ?k2 ?k3 ?k4 ?k5 ?kA ?kF ?kK ?k6 ?k7 ?k8 ?k9 ?kB ?_ ?c2 ?c3 ?c4 ?c5; (case kA => exact rfl); (case kF => exact rfl); (case kK => first | assumption | exact rfl); (case k1 => k_asm); (case k2 => k_asm); (case k3 => k_asm); (case k4 => k_asm); (case k5 => k_asm); (case k6 => k_is); (case k7 => k_is); (case k8 => ktr_room); (case k9 => first | exact BindsTo.of_eq rfl | exact binds_K (by k_in) rfl (by k_is) rfl rfl rfl); (case c5 => decide); (case kB => exact locs rfl); (case c2 => exact rfl); (case c3 => exact rfl); (case c4 => exact rfl); k_whole; intro g' L' h' FG' F' N' B' X' T'; (try dsimp only); (try k_lift B'); (try k_fold)) | (refine' code_def ?k1 ?k2 ?k3 ?k4 ?k5 ?kA ?kF ?kK ?k6 ?k7 ?k8 ?k9 ?kB ?_ ?c2 ?c3 ?c4 ?c5; (case kA => exact rfl); (case kF => exact rfl); (case kK => first | assumption | exact rfl); (case k1 => k_asm); (case k2 => k_asm); (case k3 => k_asm); (case k4 => k_asm); (case k5 => k_asm); (case k6 => k_is); (case k7 => k_is); (case k8 => ktr_room); (case k9 => first | exact BindsTo.of_eq rfl | exact binds_K (by k_in) rfl (by k_is) rfl rfl rfl); (case c5 => decide); (case kB => exact locs rfl); (case c2 => exact rfl); (case c3 => exact rfl); (case c4 => exact rfl); k_whole; intro g' L' h' FG' F' N' B' X' T'; (try dsimp only); (try k_lift B'); (try k_fold)) | (kp_kind "both"; (refine' kp_both ?k1 ?k2 ?k3 ?k4 ?k5 ?kA ?kF ?kK ?k6 ?k7 ?k8 ?kV ?kX ?kQ ?kM ?kN ?kD ?kR ?kP ?kS ?kT ?kB ?_ ?c2 ?c3 ?c4 ?c5; (case kA => exact rfl); (case kF => exact rfl); (case kK => first | assumption | exact rfl); (case k1 => k_asm); (case k2 => k_asm); (case k3 => k_asm); (case k4 => k_asm); (case k5 => k_asm); (case k6 => k_is); (case k7 => k_is); (case k8 => ktr_room); (case kV => kp_lit); (case kX => kp_lit); (case kQ => exact rfl); (case kM => exact rfl); (case kN => exact rfl); (case kD => kp_flats); (case kR => exact rfl); (case kP => exact rfl); (case kS => exact fun _ => rfl); (case kT => exact fun _ _ => rfl); (case kB => exact fun _ _ => locs rfl); (case c5 => decide); (case c2 => exact rfl); (case c3 => exact rfl); (case c4 => exact rfl); k_whole; intro C' D' o' g' L' h' tk' l1 l2 lo' hs' fs' FG' F' N' B' X' T'; (try k_lt l1); (try k_lt2 l2); (try dsimp only); (try k_lift B'); (try k_fold))))
  k_steps
  · rename News _ _ _ _ => N20
    rename Fr _ _ _ _ => F20
    rename_i hlt _ _ _ _
    dsimp only
    have a1 : max 0 (min (i : Int) (b.size : Int)) = (i : Int) := by omega
    have a2 : max 0 (min ((i : Int) + (k : Int)) (b.size : Int)) = ((min (i + k) b.size : Nat) : Int) := by omega
    have hsl : (Builtin.Bytes.sliced b (max 0 (min (i : Int) (b.size : Int))) (max 0 (min ((i : Int) + (k : Int)) (b.size : Int))) 1).size ≤ b.size := by rw [a1, a2]; exact sliced_size ..
    refine sub_ba F20 N20 (.head _) (by omega) (by omega) (by rw [PySem.sizeLine_eq]; omega) fun T h9 F9 N9 => ?_
    k_steps
    rename News _ _ _ _ => N30
    rename Fr _ _ _ _ => F30
    have N31 := led_sub N30 (fun p hp => List.mem_cons_of_mem _ hp)
    have a3 : (i : Int) + (k : Int) = ((min (i + k) b.size : Nat) : Int) := by omega
    rw [a3] at N31
    rw [a1, a2]
    exact hret _ _ _ _ F30 N31
  · rename News _ _ _ _ => N20
    rename Fr _ _ _ _ => F20
    dsimp only
    have a1 : max 0 (min (i : Int) (b.size : Int)) = (i : Int) := by omega
    have a2 : max 0 (min (b.size : Int) (b.size : Int)) = ((min (i + k) b.size : Nat) : Int) := by omega
    have hsl : (Builtin.Bytes.sliced b (max 0 (min (i : Int) (b.size : Int))) (max 0 (min (b.size : Int) (b.size : Int))) 1).size ≤ b.size := by rw [a1, a2]; exact sliced_size ..
    refine sub_ba F20 N20 (.head _) (by omega) (by omega) (by rw [PySem.sizeLine_eq]; omega) fun T h9 F9 N9 => ?_
    k_steps
    rename News _ _ _ _ => N30
    rename Fr _ _ _ _ => F30
    have N31 := led_sub N30 (fun p hp => List.mem_cons_of_mem _ hp)
    have a3 : (b.size : Int) = ((min (i + k) b.size : Nat) : Int) := by omega
    rw [a1, a2]
    rw [a3] at N31
    exact hret _ _ _ _ F30 N31
end
end
/-! Rf -/
section
open PySem PySem.W PyProof.Rows PySem.Calls
section
variable {w : World} {dp un : Nat} {cn : PySem.Str} {cs : Scope} {a : Addr} {ccd : Value} {cl : List (PySem.Str × Addr)} {outer : List Env} {A₀ : Around} {base h₀ : Heap} {L : Addr} {m mg mb : PySem.Str → Option Value} {mean : ExcName → Option Value} {loose : List PySem.Str} {s : Shared} {Q E : Value → Shared → Prop} {news : List (Addr × Obj)}
variable (B : Below A₀ base outer h₀) (F : Fr h₀ L s.heap m) (X : (hd.heap_39 w.params).In h₀) (T : Top hd.view_39 loose mean mg mb h₀) (hk : cs.kind = .function)
include B F X T hk
local macro_rules | `(tactic| walk_at "exec While") => `(tactic| (k_here; refine Stop.go ?_))
local macro_rules | `(tactic| walk_at "exec While Constant") => `(tactic| (k_here; refine Stop.go ?_))
local macro_rules | `(tactic| walk_at "WEnd") => `(tactic| (refine Stop.go ?_))
/-- a path read out of a stream over its octets -/
theorem rf_c {nm : Array UInt8} {ns : List Int} {t1 t2 t3 : Tok} {x dx bx : Addr} (hdp : dp + 5 < recursionLimit) (hu : un + 44 < cLine)
    (e1 : @LT.lt Nat _ dx x) (e2 : @LT.lt Nat _ x bx) (o1 : ∀ p ∈ news, p.1 ≠ dx)
    (N : News h₀ L s.heap ((bx, baObj (octs nm ns ns.length)) :: (x, instObj 360 dx) :: (dx, bioD w bx 0 t1 t2 t3) :: news))
    (hnm : nm.size = 4) (hns : ns.length ≤ 100) (hb : ∀ n ∈ ns, 0 ≤ n ∧ n < 4294967296)
    (hret : ∀ (y dy D : Addr) (vs : List Value) (k : Nat) (t4 t5 t6 t7 : Tok) (h' : Heap) (tk' : Nat), IntsAre vs ns → Fr h₀ L h' m → News h₀ L h' ((y, instObj 748 dy) :: (dy, dpD w nm D t4 t5 t6) :: (D, ({ cls := .type "list", data := .seq vs.toArray k } : Obj)) :: (bx, baObj (octs nm ns ns.length)) :: (x, instObj 360 dx) :: (dx, bioD w bx ((4 + 4 * ns.length : Nat) : Int) t1 t2 t7) :: news) →
      (∀ p ∈ news, p.1 < D ) → Q (.ref y) { s with heap := h', toks := tk' }) :
    codeAny (model PySem.Challenge.rw_ci0003_01.row.prog w) (ktrTop dp un (some []) cn cs L a ccd cl outer) (.call (.ref 742) ⟨[.ref 748, .ref x], []⟩) (fun r s' => match r with | .ok (.ret v) => Q v s' | .ok _ => False | .error e => E e s') s := by
  revert X; k_fill; intro X
  have hsz := octs_size nm ns ns.length (Nat.le_refl _)
  k_dflt (first | (refine' code_starN ?k1 ?k2 ?k3 ?k4 ?k5 ?kA ?kF ?kK ?k6 ?k7 ?k8 ?kV ?kQ ?kM ?kR ?kP ?kS ?kT ?kB ?_ ?c2 ?c3 ?c4 ?c5; (case kA => exact rfl); (case kF => exact rfl); (case kK => first | assumption | exact rfl); (case k1 => k_asm); (case k2 => k_asm); (case k3 => k_asm); (case k4 => k_asm); (case k5 => k_asm); (case k6 => k_is); (case k7 => k_is); (case k8 => ktr_room); (case kV => kp_lit); (case kQ => exact rfl); (case kM => exact rfl); (case kR => exact rfl); (case kP => exact rfl); (case kS => exact fun _ => rfl); (case kT => exact fun _ _ => rfl); (case kB => exact fun _ _ => locs rfl); (case c5 => decide); (case c2 => exact rfl); (case c3 => exact rfl); (case c4 => exact rfl); k_whole; intro C' D' g' L' h' tk' l1 l2 lo' FG' F' N' B' X' T'; (try k_lt l1); (try k_lt2 l2); (try dsimp only); (try k_lift B'); (try k_fold)) | (refine' code_defN ?k1 ?k2 ?k3 ?k4 ?k5 ?kA ?kF ?kK ?k6 ?k7 ?k8 ?k9 ?kB ?_ ?c2 ?c3 ?c4 ?c5; (case kA => exact rfl); (case kF => exact rfl); (case kK => first | assumption | exact rfl); (case k1 => k_asm); (case k2 => k_asm); (case k3 => k_asm); (case k4 => k_asm); (case k5 => k_asm); (case k6 => k_is); (case k7 => k_is); (case k8 => ktr_room); (case k9 => first | exact BindsTo.of_eq rfl | exact binds_K (by k_in) rfl (by k_is) rfl rfl rfl); (case c5 => decide); (case kB => exact locs rfl); (case c2 => exact rfl); (case c3 => exact rfl); (case c4 => exact rfl); k_whole; intro g' L' h' FG' F' N' B' X' T'; (try dsimp only); (try k_lift B'); (try k_fold)) | (refine' code_def ?k1 ?k2 ?k3 ?k4 ?k5 ?kA ?kF ?kK ?k6 ?k7 ?k8 ?k9 ?kB ?_ ?c2 ?c3 ?c4 ?c5; (case kA => exact rfl); (case kF => exact rfl); (case kK => first | assumption | exact rfl); (case k1 => k_asm); (case k2 => k_asm); (case k3 => k_asm); (case k4 => k_asm); (case k5 => k_asm); (case k6 => k_is); (case k7 => k_is); (case k8 => ktr_room); (case k9 => first | exact BindsTo.of_eq rfl | exact binds_K (by k_in) rfl (by k_is) rfl rfl rfl); (case c5 => decide); (case kB => exact locs rfl); (case c2 => exact rfl); (case c3 => exact rfl); (case c4 => exact rfl); k_whole; intro g' L' h' FG' F' N' B' X' T'; (try dsimp only); (try k_lift B'); (try k_fold)) | (kp_kind "both"; (refine' kp_both ?k1 ?k2 ?k3 ?k4 ?k5 ?kA ?kF ?kK ?k6 ?k7 ?k8 ?kV ?kX ?kQ ?kM ?kN ?kD ?kR ?kP ?kS ?kT ?kB ?_ ?c2 ?c3 ?c4 ?c5; (case kA => exact rfl); (case kF => exact rfl); (case kK => first | assumption | exact rfl); (case k1 => k_asm); (case k2 => k_asm); (case k3 => k_asm); (case k4 => k_asm); (case k5 => k_asm); (case k6 => k_is); (case k7 => k_is); (case k8 => ktr_room); (case kV => kp_lit); (case kX => kp_lit); (case kQ => exact rfl); (case kM => exact rfl); (case kN => exact rfl); (case kD => kp_flats); (case kR => exact rfl); (case kP => exact rfl); (case kS => exact fun _ => rfl); (case kT => exact fun _ _ => rfl); (case kB => exact fun _ _ => locs rfl); (case c5 => decide); (case c2 => exact rfl); (case c3 => exact rfl); (case c4 => exact rfl); k_whole; intro C' D' o' g' L' h' tk' l1 l2 lo' hs' fs' FG' F' N' B' X' T'; (try k_lt l1); (try k_lt2 l2); (try dsimp only); (try k_lift B'); (try k_fold))))
  k_steps
  rename Top _ _ _ _ _ _ => T1
  rename Frag.In _ _ => X1
  rename Below _ _ _ _ => B1
  rename News _ _ _ _ => N1
  rename Fr _ _ _ _ => F1
  refine read_some (k := 4) (i := 0) B1 F1 X1 T1 rfl (by ktr_room) (by ktr_units) N1 (by omega) e1 e2 o1 (by omega) (by decide) ?_
  rintro t4 t5 h5 k5 F5 N5
  rw [read_head hnm, show min (0 + 4) (octs nm ns ns.length).size = 4 + 4 * 0 by omega] at *
  k_steps
  unfold Stop
  rename News _ _ _ _ => N6
  rename Fr _ _ _ _ => F6
  rename_i l6 _ a1 _
  refine while_led (fun i m₁ n₁ => (∃ u : PySem.Str → Option Value, m₁ = fun z => if z = PySem.Str.ofString "derivation" then some (.ref l6) else if z = PySem.Str.ofString "fingerprint" then some (.bytes nm t5) else if z = PySem.Str.ofString "stream" then some (.ref x) else if z = PySem.Str.ofString "cls" then some (.ref 748) else u z) ∧
    ∃ (vs : List Value) (k : Nat) (t7 : Tok), IntsAre vs (ns.take i) ∧ n₁ = (l6, W.listOf vs.toArray k) :: (bx, baObj (octs nm ns ns.length)) :: (x, instObj 360 dx) :: (dx, bioD w bx ((4 + 4 * i : Nat) : Int) t1 t2 t7) :: news) ns.length F6 N6 ⟨⟨_, m_under2 (by rfl) (by rfl)⟩, [], 0, t4, by rw [List.take_zero]; exact IntsAre.nil, rfl⟩ ?_
  rintro i m₁ n₁ h tk hi ⟨⟨u, rfl⟩, vs, k, t7, hv, rfl⟩ F9 N9
  dsimp only [envOf] at F9 N9
  k_steps
  by_cases hlt : i < ns.length
  · obtain ⟨n, hn⟩ : ∃ n, ns[i]? = some n := ⟨_, List.getElem?_eq_getElem hlt⟩
    obtain ⟨b0, b1⟩ := hb n (List.mem_of_getElem? hn)
    refine read_some (k := 4) (i := 4 + 4 * i) (news := (l6, W.listOf vs.toArray k) :: news) B1 F9 X1 T1 rfl (by ktr_room) (by ktr_units) (led_back N9) (by omega) e1 e2 (off_cons (Nat.ne_of_gt a1.2.2.1) o1) (by omega) (by decide) ?_
    rintro t8 t9 h7 k7 F7 N7
    rw [read_at hnm hn]
    rw [show min (4 + 4 * i + 4) (octs nm ns ns.length).size = 4 + 4 * (i + 1) by omega] at N7
    have hr4 : (le4 n).toArray.size = 4 := rfl
    have hri := le4_ints (n := n)
    generalize (le4 n).toArray = r4 at hr4 hri ⊢
    have N8 := led_fore N7
    k_steps
    · exfalso
      rename _ = _ => hq
      simp at hq
    · unfold Stop
      rename News _ _ _ _ => N30
      rename Fr _ _ _ _ => F30
      rw [back4 b0 b1, List.push_toArray] at N30
      refine WEnd.next F30 (led_sub N30 fun p hp => List.mem_cons_of_mem _ hp) ⟨hlt, ⟨_, m_push4 (by decide) (by decide) (by decide) (by decide)⟩, _, _, t8, ?_, rfl⟩
      rw [List.take_add_one, hn]
      exact hv.append (.cons n _ .nil)
  · have hie : i = ns.length := by omega
    subst hie
    refine read_end (k := 4) (i := 4 + 4 * ns.length) (news := (l6, W.listOf vs.toArray k) :: news) B1 F9 X1 T1 rfl (by ktr_room) (by ktr_units) (led_back N9) (by omega) (by omega) (by decide) ?_
    rintro t9 h7 k7 F7 N7
    have N8 := led_fore N7
    rw [List.take_length] at hv
    k_steps
    unfold Stop
    show WEnd _ _ _ _ _ .brk _
    unfold WEnd
    dsimp only
    k_steps
    rename News _ _ _ _ => N20
    rename Fr _ _ _ _ => F20
    refine dp_c B1 F20 X1 N20 T1 rfl (by ktr_room) (by ktr_units) ?_
    rintro y dy t8 t6 h9 k9 F21 N21 l8 l9
    k_steps
    rename News _ _ _ _ => N30
    rename Fr _ _ _ _ => F30
    exact hret _ _ _ _ _ _ _ _ _ _ _ hv F30 N30 (fun p hp => allLt_mem a1.2.2.2 p hp)
end
end
/-! Prs -/
section
open PySem PySem.W PyProof.Rows PySem.Calls
section
variable {w : World} {dp un : Nat} {cn : PySem.Str} {cs : Scope} {a : Addr} {ccd : Value} {cl : List (PySem.Str × Addr)} {outer : List Env} {A₀ : Around} {base h₀ : Heap} {L : Addr} {m mg mb : PySem.Str → Option Value} {mean : ExcName → Option Value} {loose : List PySem.Str} {s : Shared} {Q E : Value → Shared → Prop} {news : List (Addr × Obj)}
variable (B : Below A₀ base outer h₀) (F : Fr h₀ L s.heap m) (X : (hd.heap_39 w.params).In h₀) (T : Top hd.view_39 loose mean mg mb h₀) (hk : cs.kind = .function)
include B F X T hk
/-- a path parsed out of its octets -/
theorem prs_c {nm : Array UInt8} {ns : List Int} {t : Tok} (hdp : dp + 7 < recursionLimit) (hu : un + 64 < cLine) (N : News h₀ L s.heap news)
    (hnm : nm.size = 4) (hns : ns.length ≤ 100) (hb : ∀ n ∈ ns, 0 ≤ n ∧ n < 4294967296)
    (hret : ∀ (y dy D : Addr) (vs : List Value) (k : Nat) (t4 t5 t6 : Tok) (h' : Heap) (tk' : Nat), IntsAre vs ns → Fr h₀ L h' m → News h₀ L h' ((y, instObj 748 dy) :: (dy, dpD w nm D t4 t5 t6) :: (D, ({ cls := .type "list", data := .seq vs.toArray k } : Obj)) :: news) → Q (.ref y) { s with heap := h', toks := tk' }) :
    codeN (model PySem.Challenge.rw_ci0003_01.row.prog w) (ktrTop dp un (some []) cn cs L a ccd cl outer) (.call (.ref 633) ⟨[.ref 748, .bytes (octs nm ns ns.length) t], []⟩) (fun r s' => match r with | .ok (.ret v) => Q v s' | .ok _ => False | .error e => E e s') s := by
  revert X; k_fill; intro X
  have hsz := octs_size nm ns ns.length (Nat.le_refl _)
  k_dflt (refine' code_starN ?k1 ?k2 ?k3 ?k4 ?k5 ?kA ?kF ?kK ?k6 ?k7 ?k8 ?kV ?kQ ?kM ?kR ?kP ?kS ?kT ?kB ?_ ?c2 ?c3 ?c4 ?c5; (case kA => exact rfl); (case kF => exact rfl); (case kK => first | assumption | exact rfl); (case k1 => k_asm); (case k2 => k_asm); (case k3 => k_asm); (case k4 => k_asm); (case k5 => k_asm); (case k6 => k_is); (case k7 => k_is); (case k8 => ktr_room); (case kV => kp_lit); (case kQ => exact rfl); (case kM => exact rfl); (case kR => exact rfl); (case kP => exact rfl); (case kS => exact fun _ => rfl); (case kT => exact fun _ _ => rfl); (case kB => exact fun _ _ => locs rfl); (case c5 => decide); (case c2 => exact rfl); (case c3 => exact rfl); (case c4 => exact rfl); k_whole; intro C1 D1 g1 L1 h1 tk1 l1 l2 lo1 FG1 F1 N1 B1 X1 T1; (try k_lt l1); (try k_lt2 l2); (try dsimp only); (try k_lift B1); (try k_fold))
  refine N_cons (N_Assign_Name ?_)
  refine N_Call_Name ?_
  k_steps
  refine N_callWith_p (keeps_N (K := hd.heap_39 w.params) (f := .ref 360) (by k_is)) ?_
  k_steps
  refine bio_c B1 F1 X1 N1 T1 rfl (by ktr_room) (by ktr_units) (by rw [PySem.sizeLine_eq]; omega) ?_
  rintro x dx bx t1 t2 t3 h5 k5 F5 N5 l5 l6 l7
  k_steps
  refine N_cons (N_Assign_Name ?_)
  refine N_Call_Attr ?_
  k_steps
  rename_i h6 q1 h7 F7 N7 l8
  refine N_star (C := C1) (D := D1) (keeps_MN (K := hd.heap_39 w.params) (q := q1) (f := 742) (self := .ref 748) (by k_is)) ?_
  k_steps
  · exact (N7 (C1, _) (.tail _ (.tail _ (.tail _ (.tail _ (.tail _ (.head _))))))).1
  rename_i h9 hk9
  obtain ⟨F9, N9⟩ := led_keeps F7 N7 hk9
  dsimp only
  k_steps
  · exact (N9 (D1, _) (.tail _ (.tail _ (.tail _ (.tail _ (.head _)))))).1
  refine wpN_call (meth_callN (N9 _ (.head _)).1 (codeN_lift ?_))
  have a1 : ∀ p ∈ (q1, methodObj (.ref 742) (.ref 748)) :: (D1, dictOf [] 0) :: (C1, tupE) :: news, p.1 ≠ dx := fun p hp => by
    rcases List.mem_cons.mp hp with rfl | hp
    · exact Nat.ne_of_gt l8.2.2.1
    · exact Nat.ne_of_lt (l5 p hp)
  refine rf_c (news := (q1, methodObj (.ref 742) (.ref 748)) :: (D1, dictOf [] 0) :: (C1, tupE) :: news) (t1 := t1) (t2 := t2) (t3 := t3) B1 F9 X1 T1 rfl (by ktr_room) (by ktr_units) l6 l7 a1 (led_back N9) hnm hns hb ?_
  rintro y dy D vs k t4 t5 t6 t7 h10 k10 hv F10 N10 l10
  k_steps
  refine N_pre ?_
  k_steps
  rename News _ _ _ _ => N11
  rename Fr _ _ _ _ => F11
  refine read_end (k := 1) (i := 4 + 4 * ns.length) (b := octs nm ns ns.length) (x := x) (dx := dx) (bx := bx) (t1 := t1) (t2 := t2) (t3 := t7) (news := (y, instObj 748 dy) :: (dy, dpD w nm D t4 t5 t6) :: (D, ({ cls := .type "list", data := .seq vs.toArray k } : Obj)) :: news) B1 F11 X1 T1 rfl (by ktr_room) (by ktr_units) (led_sub N11 ?_) (by omega) (by omega) (by decide) ?_
  · repeat (refine subl_cons (by k_mem) ?_)
    exact fun p hp => by repeat (first | exact hp | apply List.Mem.tail)
  rintro t9 h12 k12 F12 N12
  k_steps
  refine N_pre ?_
  k_steps
  rename News _ _ _ _ => N20
  rename Fr _ _ _ _ => F20
  exact hret _ _ _ _ _ _ _ _ _ _ hv F20 (led_sub N20 fun p hp => List.mem_cons_of_mem _ (List.mem_cons_of_mem _ (List.mem_cons_of_mem _ hp)))
end
end
end
end
end Mine
end
/-! LawJ -/
section
open PySem PySem.W PyProof.Rows PySem.Calls
namespace Mine
theorem s_none : PySem.Str.ofString "" = lit [] := by rfl
theorem s_H : PySem.Str.ofString "H" = lit [72] := by rfl
theorem s_q : PySem.Str.ofString "'" = lit [39] := by rfl
theorem join_flat : ∀ items : List (List Nat), PySem.Str.join (lit []) (items.map lit) = lit items.flatten
  | [] => by rfl
  | [x] => by show lit x = _; simp
  | x :: y :: r => by
    have ih := join_flat (y :: r)
    show lit x ++ lit [] ++ PySem.Str.join (lit []) (lit y :: r.map lit) = _
    rw [List.map_cons] at ih
    rw [ih, lit_app, lit_app]
    simp
theorem len_lits (c : Nat) : ∀ items : List (List Nat), (∀ x ∈ items, x.length ≤ c) → (((items.map lit).map (·.length)).sum) ≤ c * items.length
  | [], _ => by simp
  | x :: r, h => by
    have ih := len_lits c r fun y hy => h y (List.mem_cons_of_mem _ hy)
    have h1 := h x List.mem_cons_self
    rw [List.map_cons, List.map_cons, List.sum_cons, List.length_cons, Nat.mul_succ, lit_len]
    omega
section
variable {prog : Program} {w : World} {A : Around} {E : Value → Shared → Prop} {s : Shared} {t : Tok} {D : Addr} {Q : Value → Shared → Prop}
/-- texts put together, nothing between -/
theorem join_none {vs : List Value} {items : List (List Nat)} (hl : s.heap.IsList D vs.toArray) (hi : StrsAre vs (items.map lit)) (hn : items.length ≤ 100) (hc : ∀ x ∈ items, x.length ≤ 100)
    (h : ∀ t' k, Q (.str (lit items.flatten) t') { s with toks := k }) : wpAny (model prog w) A (call (.builtin "str.join") [.str (PySem.Str.ofString "") t, .ref D]) Q E s := by
  rw [s_none]
  have h1 := len_lits 100 items hc
  refine join_listW hl (by simpa using hi) (by decide) ?_ fun t' k => ?_
  · rw [List.length_map]; omega
  · rw [show Txt.join (lit []) (items.map lit) = PySem.Str.join (lit []) (items.map lit) from StrLaws.glued_eq_join _ _, join_flat]; exact h t' k
/-- texts put together, a stroke between two -/
theorem join_stroke {vs : List Value} {items : List (List Nat)} (hl : s.heap.IsList D vs.toArray) (hi : StrsAre vs (items.map lit)) (hn : items.length ≤ 100) (hc : ∀ x ∈ items, x.length ≤ 100)
    (h : ∀ t' k, Q (.str (lit (joinL items)) t') { s with toks := k }) : wpAny (model prog w) A (call (.builtin "str.join") [.str (PySem.Str.ofString "/") t, .ref D]) Q E s := by
  rw [s_slash]
  have h1 := len_lits 100 items hc
  refine join_listW hl (by simpa using hi) (by decide) ?_ fun t' k => ?_
  · rw [List.length_map]; omega
  · rw [show Txt.join (lit [47]) (items.map lit) = PySem.Str.join (lit [47]) (items.map lit) from StrLaws.glued_eq_join _ _, join_lit]; exact h t' k
theorem add_lits {x y : PySem.Str} {a b : List Nat} {u : Tok} (hx : x = lit a) (hy : y = lit b) (hs : a.length + b.length ≤ 100000) (h : ∀ t k, Q (.str (lit (a ++ b)) t) { s with toks := k }) : wpAny (model prog w) A (binaryOp .Add (.str x t) (.str y u)) Q E s := by
  subst hx hy
  refine SBL.add (hsz := ?hsz) ?_
  case hsz =>
    rw [PySem.sizeLine_eq, lit_len, lit_len]
    omega
  intro t9 k9 _
  rw [lit_app]
  exact h t9 k9
theorem mul_noughts {z : Int} {u : Tok} (h0 : 0 ≤ z) (h1 : z < 3) (h : ∀ t k, Q (.str (lit (List.replicate z.toNat 48)) t) { s with toks := k }) : wpAny (model prog w) A (binaryOp .Mult (.str (PySem.Str.ofString "0") t) (.int z u)) Q E s := by
  have hz : z = 0 ∨ z = 1 ∨ z = 2 := by omega
  rcases hz with rfl | rfl | rfl
  · refine SB.mul (by unfold MulOk; decide +kernel) fun t' k => ?_
    rw [show Txt.mul (PySem.Str.ofString "0") 0 = lit (List.replicate (0 : Int).toNat 48) from by decide +kernel]
    exact h t' k
  · refine SB.mul (by unfold MulOk; decide +kernel) fun t' k => ?_
    rw [show Txt.mul (PySem.Str.ofString "0") 1 = lit (List.replicate (1 : Int).toNat 48) from by decide +kernel]
    exact h t' k
  · refine SB.mul (by unfold MulOk; decide +kernel) fun t' k => ?_
    rw [show Txt.mul (PySem.Str.ofString "0") 2 = lit (List.replicate (2 : Int).toNat 48) from by decide +kernel]
    exact h t' k
end
end Mine
end
/-! Txo -/
section
open PySem PySem.W PyProof.Rows PySem.Calls PySem.NumText
namespace Mine
/-- the steps' texts, with z noughts ahead of each and the mark mk -/
def stepsL (z mk : Nat) (ps : List Int) : List (List Nat) := ps.map fun n => List.replicate z 48 ++ stepL n [mk]
theorem good_steps {z mk : Nat} {ps : List Int} (hz : z ≤ 2) (hm : mk = 104 ∨ mk = 72 ∨ mk = 39) (hb : ∀ n ∈ ps, 0 ≤ n ∧ n < 4294967296) : Good (stepsL z mk ps) ps := by
  refine ⟨by unfold stepsL; rw [List.length_map], fun i x hx => ?_⟩
  unfold stepsL at hx
  rw [List.getElem?_map] at hx
  obtain ⟨n, hn, rfl⟩ := Option.map_eq_some_iff.mp hx
  obtain ⟨b0, b1⟩ := hb n (List.mem_of_getElem? hn)
  obtain ⟨a1, a2, a3⟩ := item_step b0 hz b1 hm
  exact ⟨n, hn, a1, a2, a3, b0, b1, step_free hm⟩
theorem told_is (ps : List Int) : 109 :: ps.flatMap tellL = joinL ([109] :: stepsL 0 104 ps) := by
  rw [joinL_cons]
  unfold stepsL
  rw [List.flatMap_map]
  rfl
theorem parse_told {ps : List Int} (hb : ∀ n ∈ ps, 0 ≤ n ∧ n < 4294967296) : ∃ qs, Txt.split (Txt.rstripChars (lit (109 :: ps.flatMap tellL)) (PySem.Str.ofString "/")) (PySem.Str.ofString "/") = qs ∧ ItemsOk (stepsOf qs) ps := by
  have z := parse_m 0 (good_steps (z := 0) (mk := 104) (by decide) (.inl rfl) hb)
  rw [List.replicate_zero, List.append_nil] at z
  rw [told_is]
  exact z
theorem s_mslash : PySem.Str.ofString "m/" = lit [109, 47] := by rfl
theorem mj {its : List (List Nat)} (h : its ≠ []) : [109, 47] ++ joinL its = joinL ([109] :: its) := by
  cases its with
  | nil => exact absurd rfl h
  | cons x r => rfl
theorem parse_m0 {its : List (List Nat)} {ps : List Int} (G : Good its ps) : ∃ qs, Txt.split (Txt.rstripChars (lit (joinL ([109] :: its))) (PySem.Str.ofString "/")) (PySem.Str.ofString "/") = qs ∧ ItemsOk (stepsOf qs) ps := by
  have z := parse_m 0 G
  rw [List.replicate_zero, List.append_nil] at z
  exact z
theorem parse_m1 {its : List (List Nat)} {ps : List Int} (G : Good its ps) : ∃ qs, Txt.split (Txt.rstripChars (lit (joinL ([109] :: its) ++ [47])) (PySem.Str.ofString "/")) (PySem.Str.ofString "/") = qs ∧ ItemsOk (stepsOf qs) ps := parse_m 1 G
/-- the mark of the step i in the mixed text -/
def mkAt (hn : Int) (i : Nat) : Nat := ([104, 72, 39] : List Nat).getD ((hn + (i : Int)).fmod 3).toNat 104
theorem mkAt_in (hn : Int) (i : Nat) : mkAt hn i = 104 ∨ mkAt hn i = 72 ∨ mkAt hn i = 39 := by
  unfold mkAt
  have h0 : 0 ≤ (hn + (i : Int)).fmod 3 := Int.fmod_nonneg_of_pos _ (by decide)
  have h1 : (hn + (i : Int)).fmod 3 < 3 := Int.fmod_lt_of_pos _ (by decide)
  have hz : (hn + (i : Int)).fmod 3 = 0 ∨ (hn + (i : Int)).fmod 3 = 1 ∨ (hn + (i : Int)).fmod 3 = 2 := by omega
  rcases hz with e | e | e <;> rw [e] <;> decide
theorem mkAt_item (hn : Int) (i : Nat) : Txt.item (PySem.Str.ofString "hH'") ((hn + (i : Int)).fmod 3) = lit [mkAt hn i] := by
  unfold mkAt
  have h0 : 0 ≤ (hn + (i : Int)).fmod 3 := Int.fmod_nonneg_of_pos _ (by decide)
  have h1 : (hn + (i : Int)).fmod 3 < 3 := Int.fmod_lt_of_pos _ (by decide)
  have hz : (hn + (i : Int)).fmod 3 = 0 ∨ (hn + (i : Int)).fmod 3 = 1 ∨ (hn + (i : Int)).fmod 3 = 2 := by omega
  rcases hz with e | e | e <;> rw [e] <;> decide +kernel
def mixL (hn : Int) (ps : List Int) : List (List Nat) := ps.mapIdx fun i n => stepL n [mkAt hn i]
theorem mixL_at {hn : Int} {ps : List Int} {i : Nat} {n : Int} (h : ps[i]? = some n) : (mixL hn ps)[i]? = some (stepL n [mkAt hn i]) := by
  unfold mixL
  rw [List.getElem?_mapIdx, h, Option.map_some]
theorem mixL_len (hn : Int) (ps : List Int) : (mixL hn ps).length = ps.length := by unfold mixL; rw [List.length_mapIdx]
theorem good_mix {hn : Int} {ps : List Int} (hb : ∀ n ∈ ps, 0 ≤ n ∧ n < 4294967296) : Good (mixL hn ps) ps := by
  refine ⟨mixL_len hn ps, fun i x hx => ?_⟩
  have hi : i < ps.length := by rw [← mixL_len hn ps]; exact (List.getElem?_eq_some_iff.mp hx).1
  have hn' : ps[i]? = some ps[i] := List.getElem?_eq_getElem hi
  rw [mixL_at hn'] at hx
  cases hx
  obtain ⟨b0, b1⟩ := hb _ (List.mem_of_getElem? hn')
  obtain ⟨a1, a2, a3⟩ := item_step (z := 0) b0 (by decide) b1 (mkAt_in hn i)
  exact ⟨_, hn', a1, a2, a3, b0, b1, step_free (z := 0) (mkAt_in hn i)⟩
theorem joinL_app {a : List (List Nat)} (x : List Nat) (r : List (List Nat)) (h : a ≠ []) : joinL (a ++ x :: r) = joinL a ++ 47 :: joinL (x :: r) := by
  cases a with
  | nil => exact absurd rfl h
  | cons y q =>
    rw [List.cons_append, joinL_cons, joinL_cons, joinL_cons, List.flatMap_append, List.flatMap_cons]
    simp
/-- a text that parse_path refuses -/
def Wrong (l : List Nat) : Prop := l.length ≤ 1000 ∧ ∃ qs j, Txt.split (Txt.rstripChars (lit l) (PySem.Str.ofString "/")) (PySem.Str.ofString "/") = qs ∧ ItemsBad (stepsOf qs) j ∧ qs.length ≤ 100
theorem told_len {ps : List Int} (hps : ps.length ≤ 6) (hb : ∀ n ∈ ps, 0 ≤ n ∧ n < 4294967296) : (ps.flatMap tellL).length ≤ 72 := by
  have h1 := flat_len tellL 12 ps fun n hn => tellL_len (hb n hn).1 (hb n hn).2
  omega
theorem stepsL_len (z mk : Nat) (ps : List Int) : (stepsL z mk ps).length = ps.length := by unfold stepsL; rw [List.length_map]
theorem wrong_m {ps : List Int} (hps : ps.length ≤ 6) (hb : ∀ n ∈ ps, 0 ≤ n ∧ n < 4294967296) {x y : List Nat} {r r' : List (List Nat)} (hx : BadItem (lit x)) (hr : x :: r = r' ++ [y]) (hy : y ≠ []) (hf : ∀ z ∈ x :: r, 47 ∉ z) (hl : (joinL (x :: r)).length ≤ 10) (hrl : r.length ≤ 2) :
    Wrong (109 :: ps.flatMap tellL ++ 47 :: joinL (x :: r)) := by
  have e : 109 :: ps.flatMap tellL ++ 47 :: joinL (x :: r) = joinL ([109] :: (stepsL 0 104 ps ++ x :: r)) := by
    rw [told_is, ← joinL_app x r (by simp), List.cons_append]
  have ht := told_len hps hb
  refine ⟨by rw [List.length_append, List.length_cons, List.length_cons]; omega, ?_⟩
  rw [e]
  obtain ⟨qs, q1, q2, q3⟩ := parse_bad_m (good_steps (z := 0) (mk := 104) (by decide) (.inl rfl) hb) hx hr hy hf
  exact ⟨qs, _, q1, q2, by rw [q3, stepsL_len]; omega⟩
theorem wrong_n {ps : List Int} (hps : ps.length ≤ 6) (hb : ∀ n ∈ ps, 0 ≤ n ∧ n < 4294967296) : Wrong ([110] ++ ps.flatMap tellL ++ [47, 49]) := by
  have e : [110] ++ ps.flatMap tellL ++ [47, 49] = joinL ([110] :: (stepsL 0 104 ps ++ [[49]])) := by
    rw [joinL_cons, List.flatMap_append]
    unfold stepsL
    rw [List.flatMap_map]
    simp
    rfl
  have ht := told_len hps hb
  refine ⟨by simp only [List.length_append, List.length_cons, List.length_nil]; omega, ?_⟩
  rw [e]
  obtain ⟨qs, q1, q2, q3⟩ := parse_bad_n (good_steps (z := 0) (mk := 104) (by decide) (.inl rfl) hb)
  exact ⟨qs, _, q1, q2, by rw [q3, stepsL_len]; omega⟩
/-- the six wrong texts -/
theorem wrongs {ps : List Int} (hps : ps.length ≤ 6) (hb : ∀ n ∈ ps, 0 ≤ n ∧ n < 4294967296) :
    Wrong (109 :: ps.flatMap tellL ++ [47, 120]) ∧ Wrong (109 :: ps.flatMap tellL ++ [47, 49, 104, 104]) ∧ Wrong (109 :: ps.flatMap tellL ++ [47, 47, 49]) ∧ Wrong (109 :: ps.flatMap tellL ++ [47, 104]) ∧ Wrong ([110] ++ ps.flatMap tellL ++ [47, 49]) ∧ Wrong (109 :: ps.flatMap tellL ++ [47, 49, 46, 53]) := by
  refine ⟨wrong_m (x := [120]) (r := []) (r' := []) hps hb bad_x rfl (by decide) (by decide) (by decide) (by decide), wrong_m (x := [49, 104, 104]) (r := []) (r' := []) hps hb bad_1hh rfl (by decide) (by decide) (by decide) (by decide),
    wrong_m (x := []) (r := [[49]]) (r' := [[]]) hps hb bad_none rfl (by decide) (by decide) (by decide) (by decide), wrong_m (x := [104]) (r := []) (r' := []) hps hb bad_h rfl (by decide) (by decide) (by decide) (by decide), wrong_n hps hb,
    wrong_m (x := [49, 46, 53]) (r := []) (r' := []) hps hb bad_15 rfl (by decide) (by decide) (by decide) (by decide)⟩
end Mine
end
/-! NFor -/
section
open PySem PySem.W PyProof.Rows PySem.Calls PyProof.V PySem.Spec
namespace Mine
section
variable {prog : Program} {w : World} {A : Around} {E : Value → Shared → Prop} {s : Shared} {env : Env} {h₀ : Heap} {m : PySem.Str → Option Value} {news : List (Addr × Obj)}
theorem loopT {R : Result → Shared → Prop} {x : PySem.Str} {px : Pos} {body : List Stmt} {I D : Addr} {vs : List Value} {k : Nat} {adr : List Addr} (hIL : env.locals ≠ I) (hDI : D ≠ I)
    (J : Nat → (PySem.Str → Option Value) → List (Addr × Obj) → Prop) (hh : A.handled = none)
    (hI₀ : h₀.get? I = none) (hadr : ∀ b ∈ adr, b ≠ I)
    (hD : ∀ i m₁ news₁, J i m₁ news₁ → (D, ({ cls := .type "tuple", data := .seq vs.toArray k } : Obj)) ∈ news₁) (s₁ : Shared)
    (turn : ∀ i v m₁ news₁ I oI h tk, vs[i]? = some v → J i m₁ news₁ → news₁.map (·.1) = adr → (∀ p ∈ news₁, p.1 ≠ I) → Fr h₀ env.locals h m₁ → News h₀ env.locals h ((I, oI) :: news₁) →
        wpAny (model prog w) A (storeName env x v) (fun _ s₂ => wpN (model prog w) A (execs body env) (TurnEnd h₀ env.locals adr (J (i + 1)) s₁ I oI) (fun _ _ => False) s₂) (fun _ _ => False) { s₁ with heap := h, toks := tk })
    (done : ∀ m₁ news₁ h tk, J vs.length m₁ news₁ → news₁.map (·.1) = adr → Fr h₀ env.locals h m₁ → News h₀ env.locals h news₁ → R (.ok .next) { s₁ with heap := h, toks := tk }) :
    ∀ n i m₁ news₁ h tk, i + n = vs.length → h.IsTupleIter I D i → J i m₁ news₁ → news₁.map (·.1) = adr → Fr h₀ env.locals h m₁ → News h₀ env.locals h news₁ →
      codeN (model prog w) A (.forLoop (.Name x px) (.ref I) body [] env) R { s₁ with heap := h, toks := tk } := by
  intro n
  induction n with
  | zero =>
    intro i m₁ news₁ h tk hi hit hJ ha F N
    refine codeN_of_tree rfl ?_
    show wpN _ _ ((forTurn (.Name x px) (.ref I) body [] env).onRaise (fun x => do noteFrame x env; theTreesLotGoes x)) _ _ _
    refine wpN_onRaise ?_
    unfold forTurn
    refine wpN_at ?_
    have W := Walks.tuple (prog := prog) (w := w) hh I D hDI vs.toArray
    have hl : h.IsTuple D vs.toArray := ⟨_, (N _ (hD _ _ _ hJ)).1, rfl, _, rfl⟩
    refine wpN_then (wpAny_onRaise (W.done _ _ _ (by rw [show vs.toArray.size = i by simp; omega]; exact ⟨hit, hl⟩) fun h' tk' hk => ?_))
    refine wpN_pure ⟨rfl, block_nilN ?_⟩
    have hne : ∀ p ∈ news₁, p.1 ∉ [I] := fun p hp q => hadr _ (ha ▸ List.mem_map_of_mem hp) (List.mem_singleton.mp q)
    refine done m₁ news₁ h' tk' (by rw [show vs.length = i by omega]; exact hJ) ha ?_ ?_
    · exact ⟨F.ns.at' fun o e => hk _ o (fun q => hIL (List.mem_singleton.mp q)) e, fun b o e => hk b o (fun q => by rw [List.mem_singleton.mp q, hI₀] at e; cases e) (F.keep b o e), F.above⟩
    · exact fun p hp => ⟨hk _ _ (hne p hp) (N p hp).1, (N p hp).2⟩
  | succ n ih =>
    intro i m₁ news₁ h tk hi hit hJ ha F N
    refine codeN_of_tree rfl ?_
    show wpN _ _ ((forTurn (.Name x px) (.ref I) body [] env).onRaise (fun x => do noteFrame x env; theTreesLotGoes x)) _ _ _
    refine wpN_onRaise ?_
    unfold forTurn
    refine wpN_at ?_
    have W := Walks.tuple (prog := prog) (w := w) hh I D hDI vs.toArray
    have hl : h.IsTuple D vs.toArray := ⟨_, (N _ (hD _ _ _ hJ)).1, rfl, _, rfl⟩
    refine wpN_then (wpAny_onRaise (W.item i _ _ _ (by simp; omega) ⟨hit, hl⟩ fun v h' tk' hv hst hk => ?_))
    have hne : ∀ p ∈ news₁, p.1 ∉ [I] := fun p hp q => hadr _ (ha ▸ List.mem_map_of_mem hp) (List.mem_singleton.mp q)
    have F₁ : Fr h₀ env.locals h' m₁ := ⟨F.ns.at' fun o e => hk _ o (fun q => hIL (List.mem_singleton.mp q)) e, fun b o e => hk b o (fun q => by rw [List.mem_singleton.mp q, hI₀] at e; cases e) (F.keep b o e), F.above⟩
    have N₁ : News h₀ env.locals h' news₁ := fun p hp => ⟨hk _ _ (hne p hp) (N p hp).1, (N p hp).2⟩
    refine wpN_then (wpAny_pure ?_)
    obtain ⟨oI, heI, hI1, hI2⟩ := hst.1
    have hN : News h₀ env.locals h' ((I, oI) :: news₁) := fun p hp => by
      rcases List.mem_cons.mp hp with rfl | hp
      · exact ⟨heI, fun q => hIL q.symm, hI₀⟩
      · exact N₁ _ hp
    refine wpN_then (wpAny_assign_Name (wpAny_mono (turn i v m₁ news₁ I oI h' tk' (by simpa using hv) hJ ha (fun p hp q => hne p hp (List.mem_singleton.mpr q)) F₁ hN) (fun _ s₂ ht => ?_) fun _ _ e => e.elim))
    refine wpN_bindm (P := TurnEnd h₀ env.locals adr (J (i + 1)) s₁ I oI) (wpN_mono ht (fun _ _ e => e) fun _ _ e => e.elim) fun f s₃ he => ?_
    obtain ⟨rfl, h₃, tk₃, m₂, news₂, rfl, F₃, N₃, ha₃, hJ₃⟩ := he
    refine wpN_pure ⟨rfl, ?_⟩
    exact ih (i + 1) m₂ news₂ h₃ tk₃ (by omega) ⟨oI, (N₃ _ (List.mem_cons_self ..)).1, hI1, hI2⟩ hJ₃ ha₃ F₃ (fun p hp => N₃ p (List.mem_cons_of_mem _ hp))
/-- a loop over a tuple of the ledger's -/
theorem N_ForT {Q : Flow → Shared → Prop} {x : PySem.Str} {px pos : Pos} {iter : Expr} {body : List Stmt} (hh : A.handled = none)
    (hs : ∀ x, foldedSetIterable iter env x = pure x)
    (h : wpAny (model prog w) A (eval iter env) (fun xv s₁ => Stop (∃ (D : Addr) (vs : List Value) (k : Nat) (J : Nat → (PySem.Str → Option Value) → List (Addr × Obj) → Prop) (m : PySem.Str → Option Value) (news : List (Addr × Obj)), xv = .ref D ∧
      (∀ i m₁ news₁, J i m₁ news₁ → (D, ({ cls := .type "tuple", data := .seq vs.toArray k } : Obj)) ∈ news₁) ∧ Fr h₀ env.locals s₁.heap m ∧ News h₀ env.locals s₁.heap news ∧ J 0 m news ∧
      (∀ i v m₁ news₁ I oI h tk, vs[i]? = some v → J i m₁ news₁ → news₁.map (·.1) = news.map (·.1) → (∀ p ∈ news₁, p.1 ≠ I) → Fr h₀ env.locals h m₁ → News h₀ env.locals h ((I, oI) :: news₁) →
        wpAny (model prog w) A (storeName env x v) (fun _ s₂ => wpN (model prog w) A (execs body env) (TurnEnd h₀ env.locals (news.map (·.1)) (J (i + 1)) s₁ I oI) (fun _ _ => False) s₂) (fun _ _ => False) { s₁ with heap := h, toks := tk }) ∧
      (∀ m₁ news₁ h tk, J vs.length m₁ news₁ → news₁.map (·.1) = news.map (·.1) → Fr h₀ env.locals h m₁ → News h₀ env.locals h news₁ → Q .next { s₁ with heap := h, toks := tk }))) E s) :
    wpN (model prog w) A (exec (.For (.Name x px) iter body [] pos) env) Q E s := by
  rw [exec_For]
  refine wpN_at (wpN_then (wpAny_mono h (fun xv s₁ h₁ => ?_) fun _ _ e => e))
  obtain ⟨D, vs, k, J, m, news, rfl, hD, F, N, hj, turn, done⟩ := h₁
  have hl : s₁.heap.IsTuple D vs.toArray := ⟨_, (N _ (hD _ _ _ hj)).1, rfl, _, rfl⟩
  have hlt : D < s₁.heap.objs.size := by obtain ⟨_, e, _⟩ := hl; exact Heap.lt_size e
  rw [hs]
  refine wpN_bind (wpN_pure (wpN_at (wpN_then (wpAny_holding (wpAny_pyIter_tuple hl ?_)))))
  unfold runOwn
  refine wpN_onRaise (wpN_run ?_)
  have up : ∀ b o, s₁.heap.get? b = some o → (s₁.heap.push { cls := .type "tuple_iterator", data := .fields #[.ref D, .int 0 0] }).get? b = some o := fun b o e => Heap.get?_push_of_some _ e
  exact loopT (Nat.ne_of_lt F.ns.lt) (Nat.ne_of_lt hlt) J hh (next_is_new F) (fun b hb q => by
      obtain ⟨p, hp, e⟩ := List.mem_map.mp hb
      exact absurd (Heap.lt_size (N p hp).1) (by rw [e, q]; exact Nat.lt_irrefl _)) hD s₁ turn done vs.length 0 m news _ s₁.toks (by omega) ⟨_, Heap.get?_push_size _ rfl, rfl, rfl⟩ hj rfl (F.push _) (N.grown up)
theorem m_look2 {a b : PySem.Str} {r q : Option Value} {u : PySem.Str → Option Value} (ha : u a = r) (hb : u b = q) : u = fun y => if y = a then r else if y = b then q else u y := by
  funext y
  by_cases h1 : y = a
  · subst h1
    simp [ha]
  · by_cases h2 : y = b
    · subst h2
      simp [h1, hb]
    · simp [h1, h2]
end
end Mine
end
section
open PySem PySem.W PyProof.Rows PySem.Calls
namespace Mine
local macro_rules | `(tactic| walk_at "eval ListComp") => `(tactic| (k_here; refine Stop.go ?_))
local macro_rules | `(tactic| walk_at "CompSrc") => `(tactic| (k_here; refine Stop.go ?_))
local macro_rules | `(tactic| walk_at "CompEnd") => `(tactic| (refine Stop.go ?_))
/-! La2 -/
section
open PySem PySem.W PyProof.Rows PySem.Calls
local macro_rules | `(tactic| walk_at "subscriptTail") => `(tactic| (k_here; (with_reducible show wpAny _ _ (subscriptTail _ _ (Value.ref _) (Value.int _ _)) _ _ _); refine Stop.go ?_))
local macro_rules | `(tactic| walk_at "binaryOp Pow int int") => `(tactic| (k_here; first | refine pow32 ?_ | refine pow31 ?_))
theorem law_2 {w : World} {dp un : Nat} {a : Addr} {ccd : Value} {outer : List Env} {A₀ : Around} {base h₀ : Heap} {L : Addr} {mg mb : PySem.Str → Option Value} {mean : ExcName → Option Value} {loose : List PySem.Str} {s : Shared} {Q : Flow → Shared → Prop} {E : Value → Shared → Prop}
    (B : Below A₀ base outer h₀) (X : (hd.heap_39 w.params).In h₀) (T : Top hd.view_39 loose mean mg mb h₀) {D : Addr} {o1 o2 o3 : Obj} {vs : List Value} {nums : List Int} {k : Nat} {hn : Int} {th : Tok} {u : PySem.Str → Option Value}
    (F : Fr h₀ L s.heap (fun y => if y = PySem.Str.ofString "numbers" then some (.ref D) else u y)) (N : News h₀ L s.heap ((D, ({ cls := .type "list", data := .seq vs.toArray k } : Obj)) :: [(L + 3, o1), (L + 2, o2), (L + 1, o3)]))
    (d1 : o1.data = .cell none) (d2 : o2.data = .cell none) (d3 : o3.data = .cell (some (.int hn th)))
    (hI : IntsAre vs nums) (hns : nums.length ≤ 9) (hn0 : ∀ n ∈ nums, 0 ≤ n) (a3 : @Ne Nat D (L + 3)) (a2 : @Ne Nat D (L + 2)) (a1 : @Ne Nat D (L + 1))
    (hnext : ∀ (D : Addr) (vs' : List Value) (k : Nat) (o2 : Obj) (u' : PySem.Str → Option Value) (h' : Heap) (tk' : Nat), o2.data = .cell (some (.ref D)) → Fr h₀ L h' u' →
      News h₀ L h' ((D, ({ cls := .type "list", data := .seq vs'.toArray k } : Obj)) :: [(L + 3, o1), (L + 2, o2), (L + 1, o3)]) → IntsAre vs' (pathOf nums) → @Ne Nat D (L + 3) → @Ne Nat D (L + 2) → @Ne Nat D (L + 1) →
      wpN (model PySem.Challenge.rw_ci0003_01.row.prog w) (lawA dp un L a ccd outer) (execs (lawBody.drop 3) (lawE L a ccd)) Q E { s with heap := h', toks := tk' }) :
    wpN (model PySem.Challenge.rw_ci0003_01.row.prog w) (lawA dp un L a ccd outer) (execs (lawBody.drop 2) (lawE L a ccd)) Q E s := by
  revert X; k_fill; intro X
  dsimp only [lawA, lawE]
  rw [show lawScope = ⟨_, _, _, _, _⟩ from rfl]
  refine N_pre ?_
  k_steps
  unfold Stop
  k_dflt (refine LCg.ListComp_U (F₀ := by k_asm) (by rfl) (by decide) (by rfl) (by decide) (by rfl) ?_)
  k_steps
  unfold Stop
  rename IntsAre _ (List.take _ _) => I9
  rename News _ _ _ _ => N9
  rename Fr _ _ _ _ => F9
  rename_i l9
  refine LCg.CompSrc.ledger (by rfl) F9 N9 (.head _) (by rw [List.size_toArray, I9.length, sizeLine_eq, List.length_take, List.length_drop]; omega) ?_
  intro g9
  refine comp_all (fun i y => ∃ (n : Int) (t : Tok), (List.take (min 7 nums.length - 1) (List.drop 1 nums))[i]? = some n ∧ y = .int (stepOf n) t) ?_ ?_ ?_
  · intro i v I oI C oC D m2 ys h tk E' hi hv hC hx F9 N9 off ne hS9
    obtain ⟨n, t2, rfl, hn⟩ := IntsAre.at I9 i v (by simpa using hv)
    have hn1 := hn0 n (List.mem_of_mem_drop (List.mem_of_mem_take (List.mem_of_getElem? hn)))
    k_steps
    rename News _ _ _ _ => N8
    rename Fr _ _ _ _ => F8
    unfold Stop
    have k0 : 0 ≤ (n.fdiv 3).fmod 5 := Int.fmod_nonneg_of_pos _ (by decide)
    have k1 : (n.fdiv 3).fmod 5 < 5 := Int.fmod_lt_of_pos _ (by decide)
    obtain ⟨t8, e8⟩ := ints_pick (.cons (n.fmod 4294967296) _ (.cons (2147483648 + n.fmod 100) _ (.cons (n.fmod 100) _ (.cons (2147483647 + n.fmod 3) _ (.cons (4294967295 - n.fmod 3) _ .nil))))) (i := ((n.fdiv 3).fmod 5).toNat) (by show _ < 5; omega)
    refine sub_list (News.isList N8 (.head _)) k0 (by omega) e8 ?_
    exact LCg.CompEnd.intro F8 (led_sub N8 fun p hp => List.mem_cons_of_mem _ hp) _ (fun p hp => hp) off hS9 ⟨rfl, n, t8, hn, rfl⟩
  · exact .inr ⟨_, List.Mem.head _, rfl, _, rfl⟩
  · intro ys hy1 hy2
    unfold LCg.FinE
    intro D8 h' tk F9 N9 o9
    dsimp only [LCg.Off1] at o9
    refine store_steps F9 (od := LCg.lst ys) (o1 := o1) (o3 := o3) (led_sub N9 ?_) (Ne.symm o9.2.2.2.1) d2 ?_
    · repeat (refine subl_cons (by k_mem) ?_)
      exact subl_nil
    intro h8 o8 F8 N8 d8
    dsimp only
    have I8 : IntsAre ys (pathOf nums) := by
      clear hnext
      rw [cut17] at hy2 I9
      refine intsAre_of (by rw [hy1, List.size_toArray, I9.length]; unfold pathOf; rw [List.length_map]) fun i v hv => ?_
      obtain ⟨n, t, e1, e2⟩ := hy2 i v hv
      refine ⟨stepOf n, t, ?_, e2⟩
      unfold pathOf
      rw [List.getElem?_map, e1, Option.map_some]
    have hx := hnext D8 ys ys.length o8 _ h8 tk d8 F8 N8 I8 (Ne.symm o9.2.2.1) (Ne.symm o9.2.2.2.1) (Ne.symm o9.2.2.2.2.1)
    exact hx
end
section
local macro_rules | `(tactic| walk_at "True") => `(tactic| trivial)
theorem anew_La3 : True := by
  w_top off
  walk1
end
/-! La3 -/
section
open PySem PySem.W PyProof.Rows PySem.Calls
local macro_rules | `(tactic| walk_at "binaryOp Pow int int") => `(tactic| (k_here; refine Stop.go ?_))
local macro_rules | `(tactic| walk_at "call type:bytes") => `(tactic| (k_here; refine Stop.go ?_))
theorem law_3 {w : World} {dp un : Nat} {a : Addr} {ccd : Value} {outer : List Env} {A₀ : Around} {base h₀ : Heap} {L : Addr} {mg mb : PySem.Str → Option Value} {mean : ExcName → Option Value} {loose : List PySem.Str} {s : Shared} {Q : Flow → Shared → Prop} {E : Value → Shared → Prop}
    (B : Below A₀ base outer h₀) (X : (hd.heap_39 w.params).In h₀) (T : Top hd.view_39 loose mean mg mb h₀) {D : Addr} {o1 o2 o3 : Obj} {vs : List Value} {k : Nat} {hn : Int} {th : Tok} {u : PySem.Str → Option Value}
    (F : Fr h₀ L s.heap u) (N : News h₀ L s.heap ((D, ({ cls := .type "list", data := .seq vs.toArray k } : Obj)) :: [(L + 3, o1), (L + 2, o2), (L + 1, o3)]))
    (d1 : o1.data = .cell none) (d2 : o2.data = .cell (some (.ref D))) (d3 : o3.data = .cell (some (.int hn th))) (h0 : 0 ≤ hn)
    (hnext : ∀ (t : Tok) (h' : Heap) (tk' : Nat), Fr h₀ L h' (fun y => if y = PySem.Str.ofString "name" then some (.bytes (nameOf hn) t) else u y) →
      News h₀ L h' ((D, ({ cls := .type "list", data := .seq vs.toArray k } : Obj)) :: [(L + 3, o1), (L + 2, o2), (L + 1, o3)]) →
      wpN (model PySem.Challenge.rw_ci0003_01.row.prog w) (lawA dp un L a ccd outer) (execs (lawBody.drop 4) (lawE L a ccd)) Q E { s with heap := h', toks := tk' }) :
    wpN (model PySem.Challenge.rw_ci0003_01.row.prog w) (lawA dp un L a ccd outer) (execs (lawBody.drop 3) (lawE L a ccd)) Q E s := by
  revert X; k_fill; intro X
  dsimp only [lawA, lawE]
  rw [show lawScope = ⟨_, _, _, _, _⟩ from rfl]
  refine N_pre ?_
  k_steps
  unfold Stop
  k_dflt (refine LCg.ListComp_U (F₀ := by k_asm) (by rfl) (by decide) (by rfl) (by decide) (by rfl) ?_)
  k_steps
  unfold Stop
  refine LCg.CompSrc.range (by rfl) (by k_asm) (by k_asm) (by assumption) (by decide) (n := 4) (by decide) (by rw [sizeLine_eq]; decide) ?_
  intro g9
  refine comp_all (fun i y => ∃ (t : Tok), y = .int (octOf hn i) t) ?_ ?_ ?_
  · intro i v I oI C oC D' m2 ys h tk E' hi hv hC hx F9 N9 off ne hS9
    obtain ⟨t2, rfl⟩ := hv
    k_steps
    unfold Stop
    refine pow_int_small (by omega) (by omega) (by decide) ?_
    have hp : 0 < (256 : Int) ^ (0 + (i : Int)).toNat ∧ (256 : Int) ^ (0 + (i : Int)).toNat ≤ 16777216 := by
      match i, hi with
      | 0, _ => exact ⟨by decide, by decide⟩
      | 1, _ => exact ⟨by decide, by decide⟩
      | 2, _ => exact ⟨by decide, by decide⟩
      | 3, _ => exact ⟨by decide, by decide⟩
    have ho : octOf hn i = (hn.fdiv (256 ^ (0 + (i : Int)).toNat) + 16 * (0 + (i : Int))).fmod 256 := by
      unfold octOf
      rw [Int.zero_add, Int.toNat_natCast]
    generalize (256 : Int) ^ (0 + (i : Int)).toNat = p at hp ho ⊢
    obtain ⟨hp1, hp2⟩ := hp
    k_steps
    rw [← ho]
    unfold Stop
    exact LCg.CompEnd.intro (by assumption) (by assumption) _ (fun p hp => hp) off hS9 ⟨rfl, _, rfl⟩
  · trivial
  · intro ys hy1 hy2
    unfold LCg.FinE
    intro D8 h' tk F9 N9 o9
    have I9 : IntsAre ys (nameInts hn) := intsAre_of hy1 fun i v hv => by
      obtain ⟨t, e⟩ := hy2 i v hv
      have hi : i < 4 := by
        have := (List.getElem?_eq_some_iff.mp hv).1
        omega
      refine ⟨octOf hn i, t, ?_, e⟩
      match i, hi with
      | 0, _ => rfl
      | 1, _ => rfl
      | 2, _ => rfl
      | 3, _ => rfl
    k_steps
    unfold Stop
    refine KBa.make_K (by k_asm) (by k_asm) rfl (News.isList N9 (.head _)) I9 ?_ ?_ ?_
    · intro n hm
      simp only [nameInts, List.mem_cons, List.not_mem_nil, or_false] at hm
      rcases hm with rfl | rfl | rfl | rfl
      · exact octOf_in hn 0
      · exact octOf_in hn 1
      · exact octOf_in hn 2
      · exact octOf_in hn 3
    · show 4 ≤ _; decide
    intro h7 t7 k7 F7 N7 i7
    k_steps
    rename News _ _ _ _ => N8
    rename Fr _ _ _ _ => F8
    have N5 := led_sub (r := (D, ({ cls := .type "list", data := .seq vs.toArray k } : Obj)) :: [(L + 3, o1), (L + 2, o2), (L + 1, o3)]) N8 fun p hp => List.mem_cons_of_mem _ hp
    exact hnext _ _ _ F8 N5
end
/-! La10 -/
section
open PySem PySem.W PyProof.Rows PySem.Calls
local macro_rules | `(tactic| walk_at "getMethod bytes") => `(tactic| (k_here; (with_reducible refine jb_method ?_)))
local macro_rules | `(tactic| walk_at "call builtin:bytes.join") => `(tactic| (k_here; refine Stop.go ?_))
local macro_rules | `(tactic| walk_at "binaryOp Add bytes bytes") => `(tactic| (k_here; refine Stop.go ?_))
theorem law_10 {w : World} {dp un : Nat} {a : Addr} {ccd : Value} {outer : List Env} {A₀ : Around} {base h₀ : Heap} {L : Addr} {mg mb : PySem.Str → Option Value} {mean : ExcName → Option Value} {loose : List PySem.Str} {s : Shared} {Q : Flow → Shared → Prop} {E : Value → Shared → Prop}
    (B : Below A₀ base outer h₀) (X : (hd.heap_39 w.params).In h₀) (T : Top hd.view_39 loose mean mg mb h₀) {D : Addr} {o1 o2 o3 : Obj} {vs : List Value} {ps : List Int} {k : Nat} {nt : Tok} {nm : Array UInt8} {u : PySem.Str → Option Value}
    (F : Fr h₀ L s.heap (fun y => if y = PySem.Str.ofString "name" then some (.bytes nm nt) else u y)) (N : News h₀ L s.heap ((D, ({ cls := .type "list", data := .seq vs.toArray k } : Obj)) :: [(L + 3, o1), (L + 2, o2), (L + 1, o3)]))
    (d2 : o2.data = .cell (some (.ref D))) (hI : IntsAre vs ps) (hps : ps.length ≤ 6) (hb : ∀ n ∈ ps, 0 ≤ n ∧ n < 4294967296) (hnm : nm.size = 4)
    (hnext : ∀ (t : Tok) (h' : Heap) (tk' : Nat), Fr h₀ L h' (fun y => if y = PySem.Str.ofString "octets" then some (.bytes (octs nm ps ps.length) t) else if y = PySem.Str.ofString "name" then some (.bytes nm nt) else u y) →
      News h₀ L h' ((D, ({ cls := .type "list", data := .seq vs.toArray k } : Obj)) :: [(L + 3, o1), (L + 2, o2), (L + 1, o3)]) →
      wpN (model PySem.Challenge.rw_ci0003_01.row.prog w) (lawA dp un L a ccd outer) (execs (lawBody.drop 12) (lawE L a ccd)) Q E { s with heap := h', toks := tk' }) :
    wpN (model PySem.Challenge.rw_ci0003_01.row.prog w) (lawA dp un L a ccd outer) (execs (lawBody.drop 11) (lawE L a ccd)) Q E s := by
  revert X; k_fill; intro X
  dsimp only [lawA, lawE]
  rw [show lawScope = ⟨_, _, _, _, _⟩ from rfl]
  refine N_pre ?_
  k_steps
  unfold Stop
  k_dflt (refine LCg.ListComp_U (F₀ := by k_asm) (by rfl) (by decide) (by rfl) (by decide) (by rfl) ?_)
  k_steps
  unfold Stop
  refine LCg.CompSrc.ledger (by rfl) (by k_asm) N (.head _) (by rw [List.size_toArray, hI.length, sizeLine_eq]; omega) ?_
  intro g9
  refine comp_all (fun i y => ∃ (n : Int) (t : Tok), ps[i]? = some n ∧ y = .bytes (le4 n).toArray t) ?_ ?_ ?_
  · intro i v I oI C oC D' m2 ys h tk E' hi hv hC hxx F9 N9 off ne hS9
    obtain ⟨n, t2, rfl, hn⟩ := IntsAre.at hI i v (by simpa using hv)
    obtain ⟨b0, b1⟩ := hb n (List.mem_of_getElem? hn)
    k_steps
    rename_i b4 t4' k4
    obtain rfl := le4_of (n := n) ktbIn
    unfold Stop
    exact LCg.CompEnd.intro F9 N9 _ (fun p hp => hp) off hS9 ⟨rfl, n, _, hn, rfl⟩
  · exact .inr ⟨_, List.Mem.head _, rfl, _, rfl⟩
  · intro ys hy1 hy2
    unfold LCg.FinE
    intro D8 h' tk F9 N9 o9
    k_steps
    unfold Stop
    have hyl : ys.length = ps.length := by rw [hy1, List.size_toArray, hI.length]
    have ho := octs_join nm ps
    have hz := octs_size nm ps ps.length (Nat.le_refl _)
    rw [← ho, Array.size_append] at hz
    refine join_bytes (ps := ps.map fun n => (le4 n).toArray) (News.isList N9 (.head _)) (fun i v hv => ?_) (by rw [hyl, List.length_map]) (by omega) ?_ ?_
    · obtain ⟨n, t, e1, e2⟩ := hy2 i v hv
      exact ⟨_, t, by rw [List.getElem?_map, e1, Option.map_some], e2⟩
    · rw [sizes_four _ _ fun p hp => ?_, List.length_map]
      · omega
      · obtain ⟨n, _, rfl⟩ := List.mem_map.mp hp
        rfl
    intro t9 k9
    dsimp only
    refine KBy.add_bytes (by omega) ?_
    intro t10 k10
    rw [ho]
    k_steps
    rename News _ _ _ _ => N8
    rename Fr _ _ _ _ => F8
    exact hnext _ _ _ F8 (led_sub N8 fun p hp => List.mem_cons_of_mem _ hp)
end
section
local macro_rules | `(tactic| walk_at "call ref") => `(tactic| (k_here; (with_reducible show wpAny _ _ (call (Value.ref 757) _) _ _ _); refine Stop.go ?_))
local macro_rules | `(tactic| walk_at "call builtin:str.join") => `(tactic| (k_here; refine Stop.go ?_))
/-! La4 -/
section
open PySem PySem.W PyProof.Rows PySem.Calls
theorem law_4 {w : World} {dp un : Nat} {a : Addr} {ccd : Value} {outer : List Env} {A₀ : Around} {base h₀ : Heap} {L : Addr} {mg mb : PySem.Str → Option Value} {mean : ExcName → Option Value} {loose : List PySem.Str} {s : Shared} {Q : Flow → Shared → Prop} {E : Value → Shared → Prop}
    (B : Below A₀ base outer h₀) (X : (hd.heap_39 w.params).In h₀) (T : Top hd.view_39 loose mean mg mb h₀) {D : Addr} {o1 o2 o3 : Obj} {vs : List Value} {ps : List Int} {k : Nat} {hn : Int} {nt : Tok} {nm : Array UInt8} {u : PySem.Str → Option Value}
    (hdp : dp + 10 < recursionLimit) (hu : un + 100 < cLine)
    (F : Fr h₀ L s.heap (fun y => if y = PySem.Str.ofString "name" then some (.bytes nm nt) else u y)) (N : News h₀ L s.heap ((D, ({ cls := .type "list", data := .seq vs.toArray k } : Obj)) :: [(L + 3, o1), (L + 2, o2), (L + 1, o3)]))
    (d1 : o1.data = .cell none) (d2 : o2.data = .cell (some (.ref D))) (hI : IntsAre vs ps) (hps : ps.length ≤ 6) (hb : ∀ n ∈ ps, 0 ≤ n ∧ n < 4294967296)
    (hnext : ∀ (t : Tok) (h' : Heap) (tk' : Nat), Fr h₀ L h' (fun y => if y = PySem.Str.ofString "told" then some (.str (lit (109 :: ps.flatMap tellL)) t) else if y = PySem.Str.ofString "name" then some (.bytes nm nt) else u y) →
      News h₀ L h' ((D, ({ cls := .type "list", data := .seq vs.toArray k } : Obj)) :: [(L + 3, o1), (L + 2, o2), (L + 1, o3)]) →
      wpN (model PySem.Challenge.rw_ci0003_01.row.prog w) (lawA dp un L a ccd outer) (execs (lawBody.drop 5) (lawE L a ccd)) Q E { s with heap := h', toks := tk' }) :
    wpN (model PySem.Challenge.rw_ci0003_01.row.prog w) (lawA dp un L a ccd outer) (execs (lawBody.drop 4) (lawE L a ccd)) Q E s := by
  revert X; k_fill; intro X
  dsimp only [lawA, lawE]
  rw [show lawScope = ⟨_, _, _, _, _⟩ from rfl]
  refine N_pre ?_
  k_steps
  unfold Stop
  k_dflt (refine LCg.ListComp_U (F₀ := by k_asm) (by rfl) (by decide) (by rfl) (by decide) (by rfl) ?_)
  k_steps
  unfold Stop
  refine LCg.CompSrc.ledger (by rfl) (by k_asm) N (.head _) (by rw [List.size_toArray, hI.length, sizeLine_eq]; omega) ?_
  intro g9
  refine comp_all (fun i y => ∃ (n : Int) (t : Tok), ps[i]? = some n ∧ y = .str (lit (tellL n)) t) ?_ ?_ ?_
  · intro i v I oI C oC D' m2 ys h tk E' hi hv hC hx F9 N9 off ne hS9
    obtain ⟨n, t2, rfl, hn⟩ := IntsAre.at hI i v (by simpa using hv)
    obtain ⟨b0, b1⟩ := hb n (List.mem_of_getElem? hn)
    k_steps
    unfold Stop
    rw [s_h]
    refine step_c B F9 X N9 T rfl (by ktr_room) (by ktr_units) b0 b1 ?_
    intro t8 h8 tk8 F8 N8
    refine add_lits s_slash rfl (by have := stepL_len (mk := [104]) b0 b1 (by decide); simp only [List.length_singleton]; omega) ?_
    intro t9 k9
    exact LCg.CompEnd.intro F8 N8 _ (fun p hp => hp) off hS9 ⟨rfl, n, t9, hn, rfl⟩
  · exact .inr ⟨_, List.Mem.head _, rfl, _, rfl⟩
  · intro ys hy1 hy2
    unfold LCg.FinE
    intro D8 h' tk F9 N9 o9
    have I9 : StrsAre ys ((ps.map tellL).map lit) := strsAre_of (by rw [hy1, List.size_toArray, hI.length, List.length_map, List.length_map]) fun i v hv => by
      obtain ⟨n, t, e1, e2⟩ := hy2 i v hv
      exact ⟨lit (tellL n), t, by rw [List.getElem?_map, List.getElem?_map, e1, Option.map_some, Option.map_some], e2⟩
    k_steps
    unfold Stop
    refine join_none (News.isList N9 (.head _)) I9 (by rw [List.length_map]; omega) (fun x hx => ?_) ?_
    · obtain ⟨n, hn, rfl⟩ := List.mem_map.mp hx
      have := tellL_len (hb n hn).1 (hb n hn).2
      omega
    intro t' k'
    rw [← List.flatMap_def]
    dsimp only
    refine add_lits s_m rfl (by have h1 := flat_len tellL 12 ps fun n hn => tellL_len (hb n hn).1 (hb n hn).2; simp only [List.length_singleton]; omega) ?_
    intro t9 k9
    k_steps
    rename News _ _ _ _ => N8
    rename Fr _ _ _ _ => F8
    exact hnext _ _ _ F8 (led_sub N8 fun p hp => List.mem_cons_of_mem _ hp)
end
section
local macro_rules | `(tactic| walk_at "call ref") => `(tactic| (k_here; (with_reducible show wpAny _ _ (call (Value.ref 38) _) _ _ _); refine Stop.go ?_))
local macro_rules | `(tactic| walk_at "binaryOp Add str str") => `(tactic| (k_here; refine Stop.go ?_))
/-! La7 -/
section
open PySem PySem.W PyProof.Rows PySem.Calls
local macro_rules | `(tactic| walk_at "binaryOp Mult str int") => `(tactic| (k_here; refine Stop.go ?_))
theorem law_7 {w : World} {dp un : Nat} {a : Addr} {ccd : Value} {outer : List Env} {A₀ : Around} {base h₀ : Heap} {L : Addr} {mg mb : PySem.Str → Option Value} {mean : ExcName → Option Value} {loose : List PySem.Str} {s : Shared} {Q : Flow → Shared → Prop} {E : Value → Shared → Prop}
    (B : Below A₀ base outer h₀) (X : (hd.heap_39 w.params).In h₀) (T : Top hd.view_39 loose mean mg mb h₀) {D : Addr} {o1 o2 o3 : Obj} {vs : List Value} {ps : List Int} {k : Nat} {hn : Int} {th t₀ nt t₁ : Tok} {td : List Nat} {nm : Array UInt8} {u : PySem.Str → Option Value}
    (hdp : dp + 10 < recursionLimit) (hu : un + 100 < cLine) 
    (F : Fr h₀ L s.heap (fun y => if y = PySem.Str.ofString "signs" then some (.str (lit (hexL nm)) t₁) else if y = PySem.Str.ofString "told" then some (.str (lit td) t₀) else if y = PySem.Str.ofString "name" then some (.bytes nm nt) else u y)) (N : News h₀ L s.heap ((D, ({ cls := .type "list", data := .seq vs.toArray k } : Obj)) :: [(L + 3, o1), (L + 2, o2), (L + 1, o3)]))
    (d1 : o1.data = .cell none) (d2 : o2.data = .cell (some (.ref D))) (d3 : o3.data = .cell (some (.int hn th))) (h0 : 0 ≤ hn) (hI : IntsAre vs ps) (hps : ps.length ≤ 6) (hb : ∀ n ∈ ps, 0 ≤ n ∧ n < 4294967296) (aD : @Ne Nat D (L + 3))
    (hnext : ∀ (o1 : Obj) (u' : PySem.Str → Option Value) (h' : Heap) (tk' : Nat), Fr h₀ L h' (fun y => if y = PySem.Str.ofString "told" then some (.str (lit td) t₀) else if y = PySem.Str.ofString "name" then some (.bytes nm nt) else u' y) →
      News h₀ L h' ((D, ({ cls := .type "list", data := .seq vs.toArray k } : Obj)) :: [(L + 3, o1), (L + 2, o2), (L + 1, o3)]) →
      wpN (model PySem.Challenge.rw_ci0003_01.row.prog w) (lawA dp un L a ccd outer) (execs (lawBody.drop 8) (lawE L a ccd)) Q E { s with heap := h', toks := tk' }) :
    wpN (model PySem.Challenge.rw_ci0003_01.row.prog w) (lawA dp un L a ccd outer) (execs (lawBody.drop 7) (lawE L a ccd)) Q E s := by
  revert X; k_fill; intro X
  dsimp only [lawA, lawE]
  rw [show lawScope = ⟨_, _, _, _, _⟩ from rfl]
  refine N_cons ?_
  refine N_ForT (h₀ := h₀) rfl (by intro _; rfl) ?_
  k_steps
  unfold Stop
  rename News _ _ _ _ => N1
  rename Fr _ _ _ _ => F1
  rename_i DT h7 l1
  obtain ⟨aT, l3, l2, l1⟩ := l1
  refine ⟨DT, [.str (PySem.Str.ofString "h") s.toks, .str (PySem.Str.ofString "H") (s.toks + 1), .str (PySem.Str.ofString "'") (s.toks + 1 + 1)], 0, fun i m₁ n₁ => (∃ u' : PySem.Str → Option Value, m₁ = fun y => if y = PySem.Str.ofString "told" then some (.str (lit td) t₀) else if y = PySem.Str.ofString "name" then some (.bytes nm nt) else u' y) ∧ ∃ (c : Option Value) (o1 : Obj), o1.data = .cell c ∧
      n₁ = (DT, ({ cls := .type "tuple", data := .seq [.str (PySem.Str.ofString "h") s.toks, .str (PySem.Str.ofString "H") (s.toks + 1), .str (PySem.Str.ofString "'") (s.toks + 1 + 1)].toArray 0 } : Obj)) :: (D, ({ cls := .type "list", data := .seq vs.toArray k } : Obj)) :: [(L + 3, o1), (L + 2, o2), (L + 1, o3)], _, _, rfl, ?_, F1, N1, ⟨⟨_, m_look2 (by rfl) (by rfl)⟩, none, o1, d1, rfl⟩, ?_, ?_⟩
  · rintro i m₁ n₁ ⟨_, c, o1, _, rfl⟩
    exact .head _
  · rintro i v m₁ n₁ I oI h tk hv ⟨⟨u', rfl⟩, c, o1', d1', rfl⟩ ha hne F9 N9
    obtain ⟨mk, t, rfl, hm⟩ : ∃ (mk : Nat) (t : Tok), v = .str (lit [mk]) t ∧ (mk = 104 ∨ mk = 72 ∨ mk = 39) := by
      match i, hv with
      | 0, hv => exact ⟨104, _, (Option.some.inj hv).symm, .inl rfl⟩
      | 1, hv => exact ⟨72, _, (Option.some.inj hv).symm, .inr (.inl rfl)⟩
      | 2, hv => exact ⟨39, _, (Option.some.inj hv).symm, .inr (.inr rfl)⟩
    have eI : @Ne Nat I (L + 3) := fun q => hne (L + 3, o1') (.tail _ (.tail _ (.head _))) q.symm
    refine storeX_C F9 N9 rfl (.tail eI (.tail (Nat.ne_of_gt l3) (.tail aD (.head (List.forall_mem_cons.mpr ⟨Ne.symm n32, List.forall_mem_cons.mpr ⟨Ne.symm n31, fun _ h => nomatch h⟩⟩))))) d1' ?_ rfl rfl
    intro h2 o8 F8 N8 d8
    dsimp only
    refine N_pre ?_
    k_steps
    unfold Stop
    k_dflt (refine LCg.ListComp_U (F₀ := by k_asm) (by rfl) (by decide) (by rfl) (by decide) (by rfl) ?_)
    k_steps
    unfold Stop
    refine LCg.CompSrc.ledger (by rfl) (by k_asm) N8 (by k_mem) (by rw [List.size_toArray, hI.length, sizeLine_eq]; omega) ?_
    intro g9
    have hz1 : 0 ≤ hn.fmod 3 := Int.fmod_nonneg_of_pos _ (by decide)
    have hz2 : hn.fmod 3 < 3 := Int.fmod_lt_of_pos _ (by decide)
    refine comp_all (fun i y => ∃ (n : Int) (t : Tok), ps[i]? = some n ∧ y = .str (lit (List.replicate (hn.fmod 3).toNat 48 ++ stepL n [mk])) t) ?_ ?_ ?_
    · intro i v I2 oI2 C oC D' m2 ys h tk E' hi hv hC hxx F9 N9 off ne hS9
      obtain ⟨n, t2, rfl, hn'⟩ := IntsAre.at hI i v (by simpa using hv)
      obtain ⟨b0, b1⟩ := hb n (List.mem_of_getElem? hn')
      k_steps
      unfold Stop
      refine mul_noughts hz1 hz2 ?_
      intro t5 k5
      k_steps
      unfold Stop
      refine step_c B F9 X N9 T rfl (by ktr_room) (by ktr_units) b0 b1 ?_
      intro t8 h8 tk8 F8 N8
      k_steps
      unfold Stop
      refine add_lits rfl rfl (by have := stepL_len (mk := [mk]) b0 b1 (Nat.le_refl _); rw [List.length_replicate]; omega) ?_
      intro t9 k9
      k_steps
      unfold Stop
      exact LCg.CompEnd.intro F8 N8 _ (fun p hp => hp) off hS9 ⟨rfl, n, t9, hn', rfl⟩
    · exact .inr ⟨_, by k_mem, rfl, _, rfl⟩
    · intro ys hy1 hy2
      unfold LCg.FinE
      intro D8 h' tk F9 N9 o9
      have I9 : StrsAre ys ((stepsL (hn.fmod 3).toNat mk ps).map lit) := strsAre_of (by rw [hy1, List.size_toArray, hI.length, List.length_map]; unfold stepsL; rw [List.length_map]) fun i v hv => by
        obtain ⟨n, t, e1, e2⟩ := hy2 i v hv
        refine ⟨_, t, ?_, e2⟩
        unfold stepsL
        rw [List.getElem?_map, List.getElem?_map, e1, Option.map_some, Option.map_some]
      k_steps
      unfold Stop
      have hlt : ∀ x ∈ stepsL (hn.fmod 3).toNat mk ps, x.length ≤ 14 := fun x hx => by
        obtain ⟨n, hn1, rfl⟩ := List.mem_map.mp hx
        have := stepL_len (mk := [mk]) (hb n hn1).1 (hb n hn1).2 (Nat.le_refl _)
        rw [List.length_append, List.length_replicate]
        omega
      have hll : (stepsL (hn.fmod 3).toNat mk ps).length = ps.length := by unfold stepsL; rw [List.length_map]
      refine join_stroke (News.isList N9 (.head _)) I9 (by rw [hll]; omega) (fun x hx => by have := hlt x hx; omega) ?_
      intro t9 k9
      k_steps
      refine N_pre ?_
      have G := good_steps (z := (hn.fmod 3).toNat) (mk := mk) (ps := ps) (by omega) hm hb
      have hjl : (joinL (stepsL (hn.fmod 3).toNat mk ps)).length ≤ 100 := by
        cases hs : stepsL (hn.fmod 3).toNat mk ps with
        | nil => exact Nat.zero_le _
        | cons x r =>
          rw [hs] at hlt hll
          have e1 := flat_len (fun y : List Nat => 47 :: y) 15 r fun y hy => by have := hlt y (List.mem_cons_of_mem _ hy); rw [List.length_cons]; omega
          have e2 := hlt x List.mem_cons_self
          rw [joinL_cons, List.length_append]
          rw [List.length_cons] at hll
          omega
      k_steps
      · unfold Stop
        have hne : stepsL (hn.fmod 3).toNat mk ps ≠ [] := fun e => by rw [e, List.length_nil] at hll; omega
        rename News _ _ _ _ => N11
        rename Fr _ _ _ _ => F11
        obtain ⟨qs1, q1, q2⟩ := parse_plain G hne
        refine parse_c B F11 X N11 T rfl (by ktr_room) (by ktr_units) (by rw [lit_len]; omega) q1 q2 (by omega) ?_
        intro D12 vs12 h12 tk12 k12 F12 N12 I12 o12
        k_steps
        unfold Stop
        refine add_lits s_mslash rfl (by simp only [List.length_cons, List.length_nil]; omega) ?_
        intro t13 k13
        rw [mj hne]
        k_steps
        unfold Stop
        obtain ⟨qs2, q3, q4⟩ := parse_m0 G
        have hjl2 : (joinL ([109] :: stepsL (hn.fmod 3).toNat mk ps)).length ≤ 102 := by rw [← mj hne, List.length_append]; simp only [List.length_cons, List.length_nil]; omega
        have N12' := led_sub N12 (r := (I, oI) :: (DT, ({ cls := .type "tuple", data := .seq [.str (PySem.Str.ofString "h") s.toks, .str (PySem.Str.ofString "H") (s.toks + 1), .str (PySem.Str.ofString "'") (s.toks + 1 + 1)].toArray 0 } : Obj)) :: (D, ({ cls := .type "list", data := .seq vs.toArray k } : Obj)) :: [(L + 3, o8), (L + 2, o2), (L + 1, o3)]) fun p hp => by repeat (first | exact hp | apply List.Mem.tail)
        refine parse_c B F12 X N12' T rfl (by ktr_room) (by ktr_units) (by rw [lit_len]; omega) q3 q4 (by omega) ?_
        intro D14 vs14 h14 tk14 k14 F14 N14 I14 o14
        k_steps
        unfold Stop
        refine add_lits s_mslash rfl (by simp only [List.length_cons, List.length_nil]; omega) ?_
        intro t15 k15
        rw [mj hne]
        k_steps
        unfold Stop
        refine add_lits rfl s_slash (by simp only [List.length_cons, List.length_nil]; omega) ?_
        intro t16 k16
        k_steps
        unfold Stop
        obtain ⟨qs3, q5, q6⟩ := parse_m1 G
        have N14' := led_sub N14 (r := (I, oI) :: (DT, ({ cls := .type "tuple", data := .seq [.str (PySem.Str.ofString "h") s.toks, .str (PySem.Str.ofString "H") (s.toks + 1), .str (PySem.Str.ofString "'") (s.toks + 1 + 1)].toArray 0 } : Obj)) :: (D, ({ cls := .type "list", data := .seq vs.toArray k } : Obj)) :: [(L + 3, o8), (L + 2, o2), (L + 1, o3)]) fun p hp => List.mem_cons_of_mem _ hp
        refine parse_c B F14 X N14' T rfl (by ktr_room) (by ktr_units) (by rw [lit_len, List.length_append]; simp only [List.length_cons, List.length_nil]; omega) q5 q6 (by omega) ?_
        intro D17 vs17 h17 tk17 k17 F17 N17 I17 o17
        k_steps
        dsimp only
        refine N_nil ?_
        exact TurnEnd.mk F17 (led_sub N17 fun p hp => List.mem_cons_of_mem _ hp) rfl ⟨⟨_, m_look2 (by rfl) (by rfl)⟩, _, o8, d8, rfl⟩
      · rename News _ _ _ _ => N11
        rename Fr _ _ _ _ => F11
        dsimp only
        refine N_nil ?_
        exact TurnEnd.mk F11 (led_sub N11 fun p hp => List.mem_cons_of_mem _ hp) rfl ⟨⟨_, m_look2 (by rfl) (by rfl)⟩, _, o8, d8, rfl⟩
  · rintro m₁ n₁ h tk ⟨⟨u', rfl⟩, c, o1', d1', rfl⟩ ha F9 N9
    exact hnext o1' u' h tk F9 (led_sub N9 fun p hp => List.mem_cons_of_mem _ hp)
end
/-! La8 -/
section
open PySem PySem.W PyProof.Rows PySem.Calls
theorem law_8 {w : World} {dp un : Nat} {a : Addr} {ccd : Value} {outer : List Env} {A₀ : Around} {base h₀ : Heap} {L : Addr} {mg mb : PySem.Str → Option Value} {mean : ExcName → Option Value} {loose : List PySem.Str} {s : Shared} {Q : Flow → Shared → Prop} {E : Value → Shared → Prop}
    (B : Below A₀ base outer h₀) (X : (hd.heap_39 w.params).In h₀) (T : Top hd.view_39 loose mean mg mb h₀) {D : Addr} {o1 o2 o3 : Obj} {vs : List Value} {ps : List Int} {k : Nat} {hn : Int} {th t₀ nt : Tok} {td : List Nat} {nm : Array UInt8} {u : PySem.Str → Option Value}
    (hdp : dp + 10 < recursionLimit) (hu : un + 100 < cLine) 
    (F : Fr h₀ L s.heap (fun y => if y = PySem.Str.ofString "told" then some (.str (lit td) t₀) else if y = PySem.Str.ofString "name" then some (.bytes nm nt) else u y)) (N : News h₀ L s.heap ((D, ({ cls := .type "list", data := .seq vs.toArray k } : Obj)) :: [(L + 3, o1), (L + 2, o2), (L + 1, o3)]))
    (d2 : o2.data = .cell (some (.ref D))) (d3 : o3.data = .cell (some (.int hn th))) (hI : IntsAre vs ps) (hps : ps.length ≤ 6) (hb : ∀ n ∈ ps, 0 ≤ n ∧ n < 4294967296)
    (hnext : ∀ (u' : PySem.Str → Option Value) (h' : Heap) (tk' : Nat), Fr h₀ L h' (fun y => if y = PySem.Str.ofString "told" then some (.str (lit td) t₀) else if y = PySem.Str.ofString "name" then some (.bytes nm nt) else u' y) →
      News h₀ L h' ((D, ({ cls := .type "list", data := .seq vs.toArray k } : Obj)) :: [(L + 3, o1), (L + 2, o2), (L + 1, o3)]) →
      wpN (model PySem.Challenge.rw_ci0003_01.row.prog w) (lawA dp un L a ccd outer) (execs (lawBody.drop 10) (lawE L a ccd)) Q E { s with heap := h', toks := tk' }) :
    wpN (model PySem.Challenge.rw_ci0003_01.row.prog w) (lawA dp un L a ccd outer) (execs (lawBody.drop 8) (lawE L a ccd)) Q E s := by
  revert X; k_fill; intro X
  dsimp only [lawA, lawE]
  rw [show lawScope = ⟨_, _, _, _, _⟩ from rfl]
  refine N_pre ?_
  k_steps
  unfold Stop
  k_dflt (refine LCg.ListComp_U (F₀ := by k_asm) (by rfl) (by decide) (by rfl) (by decide) (by rfl) ?_)
  k_steps
  unfold Stop
  refine LCg.CompSrc.range (by rfl) (by k_asm) (by k_asm) (by assumption) (small_one (by omega) (by omega) (by omega) (by omega)) (n := ps.length) (by rw [rangeSize_nat]; omega) (by rw [sizeLine_eq]; omega) ?_
  intro g9
  refine comp_all (fun i y => ∃ (n : Int) (t : Tok), ps[i]? = some n ∧ y = .str (lit (47 :: stepL n [mkAt hn i])) t) ?_ ?_ ?_
  · intro i v I oI C oC D' m2 ys h tk E' hi hv hC hxx F9 N9 off ne hS9
    obtain ⟨t2, e⟩ := hv
    rw [Int.zero_add] at e
    subst e
    have hn' : ps[i]? = some ps[i] := List.getElem?_eq_getElem hi
    obtain ⟨b0, b1⟩ := hb _ (List.mem_of_getElem? hn')
    generalize ps[i] = n at hn' b0 b1
    have eg : ps.getD ((i : Int)).toNat 0 = n := by rw [Int.toNat_natCast, List.getD_eq_getElem?_getD, hn']; rfl
    k_steps
    unfold Stop
    rw [mkAt_item, eg]
    refine step_c B F9 X N9 T rfl (by ktr_room) (by ktr_units) b0 b1 ?_
    intro t8 h8 tk8 F8 N8
    k_steps
    unfold Stop
    refine add_lits s_slash rfl (by have := stepL_len (mk := [mkAt hn i]) b0 b1 (Nat.le_refl _); simp only [List.length_cons, List.length_nil]; omega) ?_
    intro t9 k9
    k_steps
    unfold Stop
    exact LCg.CompEnd.intro F8 N8 _ (fun p hp => hp) off hS9 ⟨rfl, n, t9, hn', rfl⟩
  · trivial
  · intro ys hy1 hy2
    unfold LCg.FinE
    intro D8 h' tk F9 N9 o9
    have I9 : StrsAre ys (((mixL hn ps).map fun x => 47 :: x).map lit) := strsAre_of (by rw [hy1, List.length_map, List.length_map, mixL_len]) fun i v hv => by
      obtain ⟨n, t, e1, e2⟩ := hy2 i v hv
      exact ⟨_, t, by rw [List.getElem?_map, List.getElem?_map, mixL_at e1, Option.map_some, Option.map_some], e2⟩
    have hlt : ∀ x ∈ (mixL hn ps).map (fun x => 47 :: x), x.length ≤ 12 := fun x hx => by
      obtain ⟨y, hy, rfl⟩ := List.mem_map.mp hx
      obtain ⟨i, hi, rfl⟩ := List.mem_iff_getElem.mp hy
      have hi2 : i < ps.length := by rw [← mixL_len hn ps]; exact hi
      have hn' : ps[i]? = some ps[i] := List.getElem?_eq_getElem hi2
      obtain ⟨b0, b1⟩ := hb _ (List.mem_of_getElem? hn')
      have e3 := mixL_at (hn := hn) hn'
      rw [List.getElem?_eq_getElem hi] at e3
      rw [Option.some.inj e3, List.length_cons]
      have := stepL_len (mk := [mkAt hn i]) b0 b1 (Nat.le_refl _)
      omega
    have hfl : ((mixL hn ps).map fun x => 47 :: x).flatten.length ≤ 72 := by
      have e1 := flat_len id 12 _ hlt
      rw [List.flatMap_id, List.length_map, mixL_len] at e1
      omega
    have hj : 109 :: ((mixL hn ps).map fun x => 47 :: x).flatten = joinL ([109] :: mixL hn ps) := by
      rw [joinL_cons, List.flatMap_def]; rfl
    k_steps
    unfold Stop
    refine join_none (News.isList N9 (.head _)) I9 (by rw [List.length_map, mixL_len]; omega) (fun x hx => by have := hlt x hx; omega) ?_
    intro t' k'
    dsimp only
    refine add_lits s_m rfl (by simp only [List.length_singleton]; omega) ?_
    intro t9 k9
    rw [show [109] ++ ((mixL hn ps).map fun x => 47 :: x).flatten = joinL ([109] :: mixL hn ps) from hj]
    have hjl : (joinL ([109] :: mixL hn ps)).length ≤ 73 := by rw [← hj, List.length_cons]; omega
    k_steps
    refine N_pre ?_
    k_steps
    unfold Stop
    rename News _ _ _ _ => N8
    rename Fr _ _ _ _ => F8
    obtain ⟨qs, q1, q2⟩ := parse_m0 (good_mix (hn := hn) hb)
    refine parse_c B F8 X N8 T rfl (by ktr_room) (by ktr_units) (by rw [lit_len]; omega) q1 q2 (by omega) ?_
    intro D11 vs11 h11 tk11 k11 F11 N11 I11 o11
    k_steps
    dsimp only
    have e8 := m_look2 (a := PySem.Str.ofString "told") (b := PySem.Str.ofString "name") (u := fun z => if z = PySem.Str.ofString "mixed" then some (.str (lit (joinL ([109] :: mixL hn ps))) t9) else (fun y => if y = PySem.Str.ofString "told" then some (.str (lit td) t₀) else if y = PySem.Str.ofString "name" then some (.bytes nm nt) else u y) z) (r := some (.str (lit td) t₀)) (q := some (.bytes nm nt)) (by rfl) (by rfl)
    exact hnext _ _ _ (e8 ▸ F11) (led_sub N11 fun p hp => List.mem_cons_of_mem _ (List.mem_cons_of_mem _ hp))
end
end
end
end Mine
end
/-! La5 -/
section
open PySem PySem.W PyProof.Rows PySem.Calls
namespace Mine
local macro_rules | `(tactic| walk_at "eval ListComp") => `(tactic| (k_here; refine Stop.go ?_))
local macro_rules | `(tactic| walk_at "BytesSrc") => `(tactic| (refine Stop.go ?_))
local macro_rules | `(tactic| walk_at "CompEnd") => `(tactic| (refine Stop.go ?_))
local macro_rules | `(tactic| walk_at "call builtin:str.join") => `(tactic| (k_here; refine Stop.go ?_))
local macro_rules | `(tactic| walk_at "binaryOp Add str str") => `(tactic| (k_here; refine Stop.go ?_))
theorem hex_item : ∀ v, v < 16 → Txt.item (PySem.Str.ofString "0123456789abcdef") ((v : Nat) : Int) = lit [hx v] := by decide +kernel
theorem law_5 {w : World} {dp un : Nat} {a : Addr} {ccd : Value} {outer : List Env} {A₀ : Around} {base h₀ : Heap} {L : Addr} {mg mb : PySem.Str → Option Value} {mean : ExcName → Option Value} {loose : List PySem.Str} {s : Shared} {Q : Flow → Shared → Prop} {E : Value → Shared → Prop}
    (B : Below A₀ base outer h₀) (X : (hd.heap_39 w.params).In h₀) (T : Top hd.view_39 loose mean mg mb h₀) {D : Addr} {o1 o2 o3 : Obj} {vs : List Value} {k : Nat} {nt : Tok} {nm : Array UInt8} {td : List Nat} {t₀ : Tok} {u : PySem.Str → Option Value}
    (F : Fr h₀ L s.heap (fun y => if y = PySem.Str.ofString "told" then some (.str (lit td) t₀) else if y = PySem.Str.ofString "name" then some (.bytes nm nt) else u y)) (N : News h₀ L s.heap ((D, ({ cls := .type "list", data := .seq vs.toArray k } : Obj)) :: [(L + 3, o1), (L + 2, o2), (L + 1, o3)]))
    (hnm : nm.size = 4)
    (hnext : ∀ (t : Tok) (h' : Heap) (tk' : Nat), Fr h₀ L h' (fun y => if y = PySem.Str.ofString "signs" then some (.str (lit (hexL nm)) t) else if y = PySem.Str.ofString "told" then some (.str (lit td) t₀) else if y = PySem.Str.ofString "name" then some (.bytes nm nt) else u y) →
      News h₀ L h' ((D, ({ cls := .type "list", data := .seq vs.toArray k } : Obj)) :: [(L + 3, o1), (L + 2, o2), (L + 1, o3)]) →
      wpN (model PySem.Challenge.rw_ci0003_01.row.prog w) (lawA dp un L a ccd outer) (execs (lawBody.drop 6) (lawE L a ccd)) Q E { s with heap := h', toks := tk' }) :
    wpN (model PySem.Challenge.rw_ci0003_01.row.prog w) (lawA dp un L a ccd outer) (execs (lawBody.drop 5) (lawE L a ccd)) Q E s := by
  revert X; k_fill; intro X
  dsimp only [lawA, lawE]
  rw [show lawScope = ⟨_, _, _, _, _⟩ from rfl]
  refine N_pre ?_
  k_steps
  unfold Stop
  k_dflt (refine comp_bytes (by k_asm) (by rfl) (by decide) (by rfl) (by decide) (by rfl) ?_)
  k_steps
  unfold Stop
  refine ⟨nm, nt, _, rfl, rfl, by k_asm, N, by rw [hnm, sizeLine_eq]; decide, ?_⟩
  rintro s₂ ⟨g9, rfl⟩
  refine comp_all (fun i y => ∃ (c : UInt8) (t : Tok), nm[i]? = some c ∧ y = .str (lit [hx (c.toNat / 16), hx (c.toNat % 16)]) t) ?_ ?_ ?_
  · intro i v I oI C oC D' m2 ys h tk E' hi hv hC hxx F9 N9 off ne hS9
    obtain ⟨c, t2, hc, rfl⟩ := hv
    have hc1 : c.toNat < 256 := c.toNat_lt
    k_steps
    unfold Stop
    have e1 : ((c.toNat : Nat) : Int).fdiv 16 = ((c.toNat / 16 : Nat) : Int) := by
      rw [Int.fdiv_eq_ediv_of_nonneg _ (by decide)]; omega
    have e2 : ((c.toNat : Nat) : Int).fmod 16 = ((c.toNat % 16 : Nat) : Int) := by
      rw [Int.fmod_eq_emod_of_nonneg _ (by decide)]; omega
    refine add_lits (a := [hx (c.toNat / 16)]) (b := [hx (c.toNat % 16)]) (by rw [e1]; exact hex_item _ (by omega)) (by rw [e2]; exact hex_item _ (by omega)) (by simp only [List.length_singleton]; decide) ?_
    intro t9 k9
    exact LCg.CompEnd.intro (by assumption) (by assumption) _ (fun p hp => hp) off hS9 ⟨rfl, c, t9, hc, rfl⟩
  · trivial
  · intro ys hy1 hy2
    unfold LCg.FinE
    intro D8 h' tk F9 N9 o9
    have I9 : StrsAre ys ((nm.toList.map fun c => [hx (c.toNat / 16), hx (c.toNat % 16)]).map lit) := strsAre_of (by rw [hy1, List.length_map, List.length_map, Array.length_toList]) fun i v hv => by
      obtain ⟨c, t, e1, e2⟩ := hy2 i v hv
      exact ⟨_, t, by rw [List.getElem?_map, List.getElem?_map, Array.getElem?_toList, e1, Option.map_some, Option.map_some], e2⟩
    k_steps
    unfold Stop
    refine join_none (News.isList N9 (.head _)) I9 (by rw [List.length_map, Array.length_toList, hnm]; decide) (fun x hx => ?_) ?_
    · obtain ⟨n, hn, rfl⟩ := List.mem_map.mp hx
      exact Nat.le_of_ble_eq_true rfl
    intro t' k'
    rw [← List.flatMap_def]
    dsimp only
    k_steps
    rename News _ _ _ _ => N8
    rename Fr _ _ _ _ => F8
    exact hnext _ _ _ F8 (led_sub N8 fun p hp => List.mem_cons_of_mem _ hp)
end Mine
end
/-! La6 -/
section
open PySem PySem.W PyProof.Rows PySem.Calls
namespace Mine
local macro_rules | `(tactic| walk_at "call ref") => `(tactic| (k_here; (with_reducible show wpAny _ _ (call (Value.ref 46) _) _ _ _); refine Stop.go ?_))
local macro_rules | `(tactic| walk_at "call ref") => `(tactic| (k_here; (with_reducible show wpAny _ _ (call (Value.ref 38) _) _ _ _); refine Stop.go ?_))
local macro_rules | `(tactic| walk_at "binaryOp Add str str") => `(tactic| (k_here; refine Stop.go ?_))
theorem law_6 {w : World} {dp un : Nat} {a : Addr} {ccd : Value} {outer : List Env} {A₀ : Around} {base h₀ : Heap} {L : Addr} {mg mb : PySem.Str → Option Value} {mean : ExcName → Option Value} {loose : List PySem.Str} {s : Shared} {Q : Flow → Shared → Prop} {E : Value → Shared → Prop}
    (B : Below A₀ base outer h₀) (X : (hd.heap_39 w.params).In h₀) (T : Top hd.view_39 loose mean mg mb h₀) {D : Addr} {o1 o2 o3 : Obj} {vs : List Value} {ps : List Int} {k : Nat} {nt t₀ t₁ : Tok} {nm : Array UInt8} {u : PySem.Str → Option Value}
    (hdp : dp + 10 < recursionLimit) (hu : un + 100 < cLine)
    (F : Fr h₀ L s.heap (fun y => if y = PySem.Str.ofString "signs" then some (.str (lit (hexL nm)) t₁) else if y = PySem.Str.ofString "told" then some (.str (lit (109 :: ps.flatMap tellL)) t₀) else if y = PySem.Str.ofString "name" then some (.bytes nm nt) else u y)) (N : News h₀ L s.heap ((D, ({ cls := .type "list", data := .seq vs.toArray k } : Obj)) :: [(L + 3, o1), (L + 2, o2), (L + 1, o3)]))
    (d2 : o2.data = .cell (some (.ref D))) (hI : IntsAre vs ps) (hps : ps.length ≤ 6) (hb : ∀ n ∈ ps, 0 ≤ n ∧ n < 4294967296) (hnm : nm.size = 4)
    (hnext : ∀ (h' : Heap) (tk' : Nat), Fr h₀ L h' (fun y => if y = PySem.Str.ofString "signs" then some (.str (lit (hexL nm)) t₁) else if y = PySem.Str.ofString "told" then some (.str (lit (109 :: ps.flatMap tellL)) t₀) else if y = PySem.Str.ofString "name" then some (.bytes nm nt) else u y) →
      News h₀ L h' ((D, ({ cls := .type "list", data := .seq vs.toArray k } : Obj)) :: [(L + 3, o1), (L + 2, o2), (L + 1, o3)]) →
      wpN (model PySem.Challenge.rw_ci0003_01.row.prog w) (lawA dp un L a ccd outer) (execs (lawBody.drop 7) (lawE L a ccd)) Q E { s with heap := h', toks := tk' }) :
    wpN (model PySem.Challenge.rw_ci0003_01.row.prog w) (lawA dp un L a ccd outer) (execs (lawBody.drop 6) (lawE L a ccd)) Q E s := by
  revert X; k_fill; intro X
  dsimp only [lawA, lawE]
  rw [show lawScope = ⟨_, _, _, _, _⟩ from rfl]
  have hns : ps.length ≤ 100 := by omega
  have hfl : (ps.flatMap tellL).length ≤ 72 := by
    have h1 := flat_len tellL 12 ps fun n hn => tellL_len (hb n hn).1 (hb n hn).2
    omega
  have hl : (lit (109 :: ps.flatMap tellL)).length ≤ 73 := by rw [lit_len, List.length_cons]; omega
  refine N_pre ?_
  k_steps
  unfold Stop
  refine pts_c B F X N T rfl (by ktr_room) (by ktr_units) (.head _) hI hns hb ?_
  intro t8 h8 tk8 F8 N8
  k_steps
  · exfalso
    rename _ = true => hq
    simp at hq
  unfold Stop
  refine ptf_c B F8 X N8 T rfl (by ktr_room) (by ktr_units) hnm (.head _) hI hns hb ?_
  intro t9 h9 tk9 F9 N9
  k_steps
  unfold Stop
  rw [slice_tail]
  refine add_lits rfl rfl (by rw [hexL_len, hnm]; omega) ?_
  intro t10 k10
  k_steps
  · exfalso
    rename (_ != _) = true => hq
    simp at hq
  unfold Stop
  obtain ⟨qs, q1, q2⟩ := parse_told hb
  rename News _ _ _ _ => N10
  rename Fr _ _ _ _ => F10
  refine parse_c B F10 X N10 T rfl (by ktr_room) (by ktr_units) (by omega) q1 q2 hns ?_
  intro D11 vs11 h11 tk11 k11 F11 N11 I11 o11
  k_steps
  dsimp only
  exact hnext _ _ F11 (led_sub N11 fun p hp => List.mem_cons_of_mem _ hp)
end Mine
end
/-! La9 -/
section
open PySem PySem.W PyProof.Rows PySem.Calls
namespace Mine
local macro_rules | `(tactic| walk_at "binaryOp Add str str") => `(tactic| (k_here; refine Stop.go ?_))
theorem law_9 {w : World} {dp un : Nat} {a : Addr} {ccd : Value} {A₀ : Around} {h₀ : Heap} {L : Addr} {mg mb : PySem.Str → Option Value} {mean : ExcName → Option Value} {loose : List PySem.Str} {s : Shared} {Q : Flow → Shared → Prop} {E : Value → Shared → Prop}
    (B : Below A₀ h₀ [] h₀) (X : (hd.heap_39 w.params).In h₀) (T : Top hd.view_39 loose mean mg mb h₀) {D : Addr} {o1 o2 o3 : Obj} {vs : List Value} {ps : List Int} {k : Nat} {t₀ nt : Tok} {nm : Array UInt8} {u : PySem.Str → Option Value}
    (hdp : dp + 10 < recursionLimit) (hu : un + 100 < cLine) 
    (F : Fr h₀ L s.heap (fun y => if y = PySem.Str.ofString "told" then some (.str (lit (109 :: ps.flatMap tellL)) t₀) else if y = PySem.Str.ofString "name" then some (.bytes nm nt) else u y)) (N : News h₀ L s.heap ((D, ({ cls := .type "list", data := .seq vs.toArray k } : Obj)) :: [(L + 3, o1), (L + 2, o2), (L + 1, o3)]))
    (hps : ps.length ≤ 6) (hb : ∀ n ∈ ps, 0 ≤ n ∧ n < 4294967296)
    (hnext : ∀ (u' : PySem.Str → Option Value) (h' : Heap) (tk' : Nat), Fr h₀ L h' (fun y => if y = PySem.Str.ofString "told" then some (.str (lit (109 :: ps.flatMap tellL)) t₀) else if y = PySem.Str.ofString "name" then some (.bytes nm nt) else u' y) →
      News h₀ L h' ((D, ({ cls := .type "list", data := .seq vs.toArray k } : Obj)) :: [(L + 3, o1), (L + 2, o2), (L + 1, o3)]) →
      wpN (model PySem.Challenge.rw_ci0003_01.row.prog w) (lawA dp un L a ccd []) (execs (lawBody.drop 11) (lawE L a ccd)) Q E { s with heap := h', toks := tk' }) :
    wpN (model PySem.Challenge.rw_ci0003_01.row.prog w) (lawA dp un L a ccd []) (execs (lawBody.drop 10) (lawE L a ccd)) Q E s := by
  revert X; k_fill; intro X
  dsimp only [lawA, lawE]
  rw [show lawScope = ⟨_, _, _, _, _⟩ from rfl]
  have hfl := told_len hps hb
  have hl : (lit (109 :: ps.flatMap tellL)).length ≤ 73 := by rw [lit_len, List.length_cons]; omega
  refine N_cons ?_
  refine N_ForT (h₀ := h₀) rfl (by intro _; rfl) ?_
  k_steps
  refine Stop.mk ?_
  refine add_lits (b := [47, 120]) rfl (by rfl) (by simp only [List.length_cons, List.length_nil]; omega) ?_
  intro t1 k1
  k_steps
  refine Stop.mk ?_
  refine add_lits (b := [47, 49, 104, 104]) rfl (by rfl) (by simp only [List.length_cons, List.length_nil]; omega) ?_
  intro t2 k2
  k_steps
  refine Stop.mk ?_
  refine add_lits (b := [47, 47, 49]) rfl (by rfl) (by simp only [List.length_cons, List.length_nil]; omega) ?_
  intro t3 k3
  k_steps
  refine Stop.mk ?_
  refine add_lits (b := [47, 104]) rfl (by rfl) (by simp only [List.length_cons, List.length_nil]; omega) ?_
  intro t4 k4
  k_steps
  refine Stop.mk ?_
  rw [slice_tail]
  refine add_lits (a := [110]) (by rfl) rfl (by simp only [List.length_cons, List.length_nil]; omega) ?_
  intro t5 k5
  k_steps
  refine Stop.mk ?_
  refine add_lits (b := [47, 49]) rfl (by rfl) (by simp only [List.length_append, List.length_cons, List.length_nil]; omega) ?_
  intro t6 k6
  k_steps
  refine Stop.mk ?_
  refine add_lits (b := [47, 49, 46, 53]) rfl (by rfl) (by simp only [List.length_cons, List.length_nil]; omega) ?_
  intro t7 k7
  k_steps
  refine Stop.mk ?_
  rename News _ _ _ _ => N1
  rename Fr _ _ _ _ => F1
  rename_i DT h7 l1
  obtain ⟨w0, w1, w2, w3, w4, w5⟩ := wrongs hps hb
  refine ⟨DT, [.str (lit (109 :: ps.flatMap tellL ++ [47, 120])) t1, .str (lit (109 :: ps.flatMap tellL ++ [47, 49, 104, 104])) t2, .str (lit (109 :: ps.flatMap tellL ++ [47, 47, 49])) t3, .str (lit (109 :: ps.flatMap tellL ++ [47, 104])) t4, .str (lit ([110] ++ ps.flatMap tellL ++ [47, 49])) t6, .str (lit (109 :: ps.flatMap tellL ++ [47, 49, 46, 53])) t7], 0,
    fun i m₁ n₁ => (∃ u' : PySem.Str → Option Value, m₁ = fun y => if y = PySem.Str.ofString "told" then some (.str (lit (109 :: ps.flatMap tellL)) t₀) else if y = PySem.Str.ofString "name" then some (.bytes nm nt) else u' y) ∧
      n₁ = (DT, ({ cls := .type "tuple", data := .seq [.str (lit (109 :: ps.flatMap tellL ++ [47, 120])) t1, .str (lit (109 :: ps.flatMap tellL ++ [47, 49, 104, 104])) t2, .str (lit (109 :: ps.flatMap tellL ++ [47, 47, 49])) t3, .str (lit (109 :: ps.flatMap tellL ++ [47, 104])) t4, .str (lit ([110] ++ ps.flatMap tellL ++ [47, 49])) t6, .str (lit (109 :: ps.flatMap tellL ++ [47, 49, 46, 53])) t7].toArray 0 } : Obj)) :: (D, ({ cls := .type "list", data := .seq vs.toArray k } : Obj)) :: [(L + 3, o1), (L + 2, o2), (L + 1, o3)],
    _, _, rfl, ?_, F1, N1, ⟨⟨_, m_look2 (by rfl) (by rfl)⟩, rfl⟩, ?_, ?_⟩
  · rintro i m₁ n₁ ⟨_, rfl⟩
    exact .head _
  · rintro i v m₁ n₁ I oI h tk hv ⟨⟨u', rfl⟩, rfl⟩ ha hne F9 N9
    obtain ⟨x, t, rfl, hx⟩ : ∃ (x : List Nat) (t : Tok), v = .str (lit x) t ∧ Wrong x := by
      match i, hv with
      | 0, hv => exact ⟨_, _, (Option.some.inj hv).symm, w0⟩
      | 1, hv => exact ⟨_, _, (Option.some.inj hv).symm, w1⟩
      | 2, hv => exact ⟨_, _, (Option.some.inj hv).symm, w2⟩
      | 3, hv => exact ⟨_, _, (Option.some.inj hv).symm, w3⟩
      | 4, hv => exact ⟨_, _, (Option.some.inj hv).symm, w4⟩
      | 5, hv => exact ⟨_, _, (Option.some.inj hv).symm, w5⟩
    obtain ⟨hx1, qs, j, q1, q2, q3⟩ := hx
    refine storeX_L F9 N9 ?_ rfl rfl
    intro h2 F8 N8
    dsimp only
    refine N_cons (N_If (N_true_Not (N_true_Call ?_)))
    refine N_Call_Name ?_
    k_steps
    refine N_callWith_p (keeps_N (K := hd.heap_39 w.params) (f := .ref 764) (by k_is)) ?_
    k_steps
    refine refused_c B F8 X N8 T rfl (by ktr_room) (by ktr_units) (by rw [lit_len]; exact hx1) q1 q2 q3 ?_
    intro h3 k3 F10 N10
    k_steps
    refine N_nil ?_
    dsimp only
    refine N_nil ?_
    exact TurnEnd.mk F10 N10 rfl ⟨⟨_, m_look2 (by rfl) (by rfl)⟩, rfl⟩
  · rintro m₁ n₁ h tk ⟨⟨u', rfl⟩, rfl⟩ ha F9 N9
    exact hnext u' h tk F9 (led_sub N9 fun p hp => List.mem_cons_of_mem _ hp)
end Mine
end
section
local macro_rules | `(tactic| walk_at "True") => `(tactic| trivial)
local macro_rules | `(tactic| walk_at "True") => `(tactic| trivial)
theorem Mine.anew_La11 : True := by
  w_top off
  walk1
end
/-! La11 -/
section
open PySem PySem.W PyProof.Rows PySem.Calls
namespace Mine
local macro_rules | `(tactic| walk_at "call ref") => `(tactic| (k_here; (with_reducible show wpAny _ _ (call (Value.ref 748) _) _ _ _); refine Stop.go ?_))
theorem law_11 {w : World} {dp un : Nat} {a : Addr} {ccd : Value} {outer : List Env} {A₀ : Around} {base h₀ : Heap} {L : Addr} {mg mb : PySem.Str → Option Value} {mean : ExcName → Option Value} {loose : List PySem.Str} {s : Shared} {Q : Flow → Shared → Prop} {E : Value → Shared → Prop}
    (B : Below A₀ base outer h₀) (X : (hd.heap_39 w.params).In h₀) (T : Top hd.view_39 loose mean mg mb h₀) {D : Addr} {o1 o2 o3 : Obj} {vs : List Value} {ps : List Int} {k : Nat} {nt t₀ : Tok} {nm : Array UInt8} {u : PySem.Str → Option Value}
    (hdp : dp + 10 < recursionLimit) (hu : un + 100 < cLine) 
    (F : Fr h₀ L s.heap (fun y => if y = PySem.Str.ofString "octets" then some (.bytes (octs nm ps ps.length) t₀) else if y = PySem.Str.ofString "name" then some (.bytes nm nt) else u y)) (N : News h₀ L s.heap ((D, ({ cls := .type "list", data := .seq vs.toArray k } : Obj)) :: [(L + 3, o1), (L + 2, o2), (L + 1, o3)]))
    (d2 : o2.data = .cell (some (.ref D))) (hI : IntsAre vs ps) (hps : ps.length ≤ 6) (hb : ∀ n ∈ ps, 0 ≤ n ∧ n < 4294967296) (hnm : nm.size = 4)
    (hnext : ∀ (y dy y' dy' D' : Addr) (vs' : List Value) (k' : Nat) (t1 t2 t3 t4 t5 t6 : Tok) (h' : Heap) (tk' : Nat), IntsAre vs' ps → Fr h₀ L h' (fun z => if z = PySem.Str.ofString "back" then some (.ref y') else if z = PySem.Str.ofString "way" then some (.ref y) else if z = PySem.Str.ofString "octets" then some (.bytes (octs nm ps ps.length) t₀) else if z = PySem.Str.ofString "name" then some (.bytes nm nt) else u z) →
      News h₀ L h' ((y', instObj 748 dy') :: (dy', dpD w nm D' t4 t5 t6) :: (D', ({ cls := .type "list", data := .seq vs'.toArray k' } : Obj)) :: (y, instObj 748 dy) :: (dy, dpD w nm D t1 t2 t3) :: (D, ({ cls := .type "list", data := .seq vs.toArray k } : Obj)) :: [(L + 3, o1), (L + 2, o2), (L + 1, o3)]) →
      wpN (model PySem.Challenge.rw_ci0003_01.row.prog w) (lawA dp un L a ccd outer) (execs (lawBody.drop 14) (lawE L a ccd)) Q E { s with heap := h', toks := tk' }) :
    wpN (model PySem.Challenge.rw_ci0003_01.row.prog w) (lawA dp un L a ccd outer) (execs (lawBody.drop 12) (lawE L a ccd)) Q E s := by
  revert X; k_fill; intro X
  dsimp only [lawA, lawE]
  rw [show lawScope = ⟨_, _, _, _, _⟩ from rfl]
  refine N_pre ?_
  k_steps
  unfold Stop
  refine dp_c B F X N T rfl (by ktr_room) (by ktr_units) ?_
  rintro y dy t4 t5 h6 k6 F6 N6 l1 l2
  k_steps
  refine N_cons (N_Assign_Name ?_)
  refine N_Call_Meth ?_
  k_steps
  rename News _ _ _ _ => N7
  rename Fr _ _ _ _ => F7
  rename_i q7 h7 l7
  refine N_callWith_p (keeps_MN (K := hd.heap_39 w.params) (q := q7) (f := 633) (self := .ref 748) (by k_is)) ?_
  k_steps
  refine wpN_call (meth_callN (N7 _ (.head _)).1 ?_)
  refine prs_c B F7 X T rfl (by ktr_room) (by ktr_units) N7 hnm (by omega) hb ?_
  intro y' dy' D' vs' k' t6 t7 t8 h8 k8 I8 F8 N8
  k_steps
  rename News _ _ _ _ => N9
  rename Fr _ _ _ _ => F9
  refine hnext y dy y' dy' D' vs' k' t4 t5 nt t6 t7 t8 _ _ I8 F9 (led_sub N9 ?_)
  repeat (refine subl_cons (by k_mem) ?_)
  exact subl_nil
end Mine
end
/-! La12 -/
section
open PySem PySem.W PyProof.Rows PySem.Calls
namespace Mine
theorem law_12 {w : World} {dp un : Nat} {a : Addr} {ccd : Value} {outer : List Env} {A₀ : Around} {base h₀ : Heap} {L : Addr} {mg mb : PySem.Str → Option Value} {mean : ExcName → Option Value} {loose : List PySem.Str} {s : Shared} {Q : Flow → Shared → Prop} {E : Value → Shared → Prop}
    (B : Below A₀ base outer h₀) (X : (hd.heap_39 w.params).In h₀) (T : Top hd.view_39 loose mean mg mb h₀) {D : Addr} {o1 o2 o3 : Obj} {vs : List Value} {ps : List Int} {k : Nat} {nt t₀ : Tok} {nm : Array UInt8} {u : PySem.Str → Option Value} {y dy y' dy' D' : Addr} {vs' : List Value} {k' : Nat} {t1 t2 t3 t4 t5 t6 : Tok}
    (hdp : dp + 10 < recursionLimit) (hu : un + 100 < cLine) 
    (F : Fr h₀ L s.heap (fun z => if z = PySem.Str.ofString "back" then some (.ref y') else if z = PySem.Str.ofString "way" then some (.ref y) else if z = PySem.Str.ofString "octets" then some (.bytes (octs nm ps ps.length) t₀) else if z = PySem.Str.ofString "name" then some (.bytes nm nt) else u z))
    (N : News h₀ L s.heap ((y', instObj 748 dy') :: (dy', dpD w nm D' t4 t5 t6) :: (D', ({ cls := .type "list", data := .seq vs'.toArray k' } : Obj)) :: (y, instObj 748 dy) :: (dy, dpD w nm D t1 t2 t3) :: (D, ({ cls := .type "list", data := .seq vs.toArray k } : Obj)) :: [(L + 3, o1), (L + 2, o2), (L + 1, o3)]))
    (d2 : o2.data = .cell (some (.ref D))) (hI : IntsAre vs ps) (hI' : IntsAre vs' ps) (hps : ps.length ≤ 6) (hb : ∀ n ∈ ps, 0 ≤ n ∧ n < 4294967296) (hnm : nm.size = 4)
    (hnext : ∀ (h' : Heap) (tk' : Nat), Fr h₀ L h' (fun z => if z = PySem.Str.ofString "back" then some (.ref y') else if z = PySem.Str.ofString "way" then some (.ref y) else if z = PySem.Str.ofString "octets" then some (.bytes (octs nm ps ps.length) t₀) else if z = PySem.Str.ofString "name" then some (.bytes nm nt) else u z) →
      News h₀ L h' ((y, instObj 748 dy) :: (dy, dpD w nm D t1 t2 t3) :: (D, ({ cls := .type "list", data := .seq vs.toArray k } : Obj)) :: [(L + 3, o1), (L + 2, o2), (L + 1, o3)]) →
      wpN (model PySem.Challenge.rw_ci0003_01.row.prog w) (lawA dp un L a ccd outer) (execs (lawBody.drop 15) (lawE L a ccd)) Q E { s with heap := h', toks := tk' }) :
    wpN (model PySem.Challenge.rw_ci0003_01.row.prog w) (lawA dp un L a ccd outer) (execs (lawBody.drop 14) (lawE L a ccd)) Q E s := by
  revert X; k_fill; intro X
  dsimp only [lawA, lawE]
  rw [show lawScope = ⟨_, _, _, _, _⟩ from rfl]
  refine N_cons (N_If (N_true_Bool (N_or ?_)))
  refine N_true_Compare1 ?_
  refine N_Call_Meth ?_
  k_steps
  rename News _ _ _ _ => N1
  rename Fr _ _ _ _ => F1
  refine N_callWith_0 (keeps_N (K := hd.heap_39 w.params) (f := .ref 650) (by k_is)) (X.keeps F1.keep) ?_
  refine ser_c (y := y) (dy := dy) (D := D) (k := k) (t4 := t1) (t5 := t2) (t6 := t3) (news := (y', instObj 748 dy') :: (dy', dpD w nm D' t4 t5 t6) :: (D', ({ cls := .type "list", data := .seq vs'.toArray k' } : Obj)) :: [(L + 3, o1), (L + 2, o2), (L + 1, o3)]) B F1 X T rfl (by ktr_room) (by ktr_units) (led_sub N1 ?_) hnm hI (by omega) hb ?_
  · repeat (refine subl_cons (by k_mem) ?_)
    exact subl_nil
  intro t7 h7 k7 F7 N7
  refine wpN_lift ?_
  k_steps
  refine wpN_lift ?_
  k_steps
  · exfalso
    rename _ = true => hq
    simp at hq
  refine N_or (wpN_lift ?_)
  k_steps
  · exfalso
    rename (nm.toList != nm.toList) = true => hq
    simp at hq
  refine N_or (wpN_lift ?_)
  k_steps
  rename News _ _ _ _ => N8
  rename Fr _ _ _ _ => F8
  have N9 := led_sub N8 (r := (y', instObj 748 dy') :: (dy', dpD w nm D' t4 t5 t6) :: (D', ({ cls := .type "list", data := .seq vs'.toArray k' } : Obj)) :: (y, instObj 748 dy) :: (dy, dpD w nm D t1 t2 t3) :: (D, ({ cls := .type "list", data := .seq vs.toArray k } : Obj)) :: [(L + 3, o1), (L + 2, o2), (L + 1, o3)]) (by
    repeat (refine subl_cons (by k_mem) ?_)
    exact subl_nil)
  clear N8
  refine N_or (N_true_Compare1 (wpN_lift ?_))
  k_steps
  refine wpN_lift ?_
  k_steps
  refine N_cmpNe (N_cmp (K := hd.heap_39 w.params) (f := 688) (by ktr_units) F8 X (by k_inst) (InstAt.of_news N9 (by k_mem) (by k_mem)).type (by k_is) (by k_is) ?_)
  refine ne_c (y := y') (dy := dy') (D := D') (k := k') (t4 := t4) (t5 := t5) (t6 := t6) (z := y) (dz := dy) (D' := D) (k' := k) (u4 := t1) (u5 := t2) (u6 := t3) (news := [(L + 3, o1), (L + 2, o2), (L + 1, o3)]) B F8 X T rfl (by ktr_room) (by ktr_units) N9 hnm hI' (by omega) hb hnm hI (by omega) hb ?_
  intro h10 k10 F10 N10
  refine ⟨(by intro q; cases q), ?_⟩
  k_steps
  · refine N_all_nil ?_
    rw [if_neg (by decide)]
    refine N_nil ?_
    exact hnext _ _ F10 (led_sub N10 fun p hp => List.mem_cons_of_mem _ (List.mem_cons_of_mem _ (List.mem_cons_of_mem _ hp)))
  · exfalso
    rename (_ == _) = false => hq
    simp at hq
end Mine
end
/-! La13 -/
section
open PySem PySem.W PyProof.Rows PySem.Calls
namespace Mine
local macro_rules | `(tactic| walk_at "call ref") => `(tactic| (k_here; (with_reducible show wpAny _ _ (call (Value.ref 748) _) _ _ _); refine Stop.go ?_))
local macro_rules | `(tactic| walk_at "binaryOp Pow int int") => `(tactic| (k_here; first | refine pow32 ?_ | refine pow31 ?_))
local macro_rules | `(tactic| walk_at "call type:bytes") => `(tactic| (k_here; refine Stop.go ?_))
local macro_rules | `(tactic| walk_at "binaryOp Add bytes bytes") => `(tactic| (k_here; refine Stop.go ?_))
local macro_rules | `(tactic| walk_at "subscriptTail") => `(tactic| (k_here; (with_reducible show wpAny _ _ (subscriptTail _ _ (Value.bytes _ _) (Value.int _ _)) _ _ _); (refine KBw.item_K (by assumption) (by simp) (by decide) (by simp) ?_); intro _ _ kbaLo kbaHi))
theorem four_of {nm : Array UInt8} (h : nm.size = 4) : ∃ c0 c1 c2 c3 : UInt8, nm = #[c0, c1, c2, c3] := by
  rcases nm with ⟨l⟩
  match l, h with
  | [c0, c1, c2, c3], _ => exact ⟨c0, c1, c2, c3, rfl⟩
theorem xor_one : ∀ c : Nat, c < 256 → 0 ≤ Builtin.bitXor (c : Int) 1 ∧ Builtin.bitXor (c : Int) 1 < 256 ∧ Builtin.bitXor (c : Int) 1 ≠ (c : Int) := by decide +kernel
theorem law_13 {w : World} {dp un : Nat} {a : Addr} {ccd : Value} {outer : List Env} {A₀ : Around} {base h₀ : Heap} {L : Addr} {mg mb : PySem.Str → Option Value} {mean : ExcName → Option Value} {loose : List PySem.Str} {s : Shared} {Q : Flow → Shared → Prop} {E : Value → Shared → Prop}
    (B : Below A₀ base outer h₀) (X : (hd.heap_39 w.params).In h₀) (T : Top hd.view_39 loose mean mg mb h₀) {D : Addr} {o1 o2 o3 : Obj} {vs : List Value} {ps : List Int} {k : Nat} {hn : Int} {th : Tok} {nt : Tok} {nm : Array UInt8} {u : PySem.Str → Option Value} {y dy : Addr} {t1 t2 t3 : Tok}
    (hdp : dp + 10 < recursionLimit) (hu : un + 100 < cLine) 
    (F : Fr h₀ L s.heap (fun z => if z = PySem.Str.ofString "way" then some (.ref y) else if z = PySem.Str.ofString "name" then some (.bytes nm nt) else u z))
    (N : News h₀ L s.heap ((y, instObj 748 dy) :: (dy, dpD w nm D t1 t2 t3) :: (D, ({ cls := .type "list", data := .seq vs.toArray k } : Obj)) :: [(L + 3, o1), (L + 2, o2), (L + 1, o3)]))
    (d2 : o2.data = .cell (some (.ref D))) (d3 : o3.data = .cell (some (.int hn th))) (h0 : 0 ≤ hn) (hI : IntsAre vs ps) (hps : ps.length ≤ 6) (hb : ∀ n ∈ ps, 0 ≤ n ∧ n < 4294967296) (hnm : nm.size = 4)
    (hret : ∀ (u' : PySem.Str → Option Value) (h' : Heap) (tk' : Nat), Fr h₀ L h' u' → Q (.ret (.bool true)) { s with heap := h', toks := tk' }) :
    wpN (model PySem.Challenge.rw_ci0003_01.row.prog w) (lawA dp un L a ccd outer) (execs (lawBody.drop 15) (lawE L a ccd)) Q E s := by
  revert X; k_fill; intro X
  dsimp only [lawA, lawE]
  rw [show lawScope = ⟨_, _, _, _, _⟩ from rfl]
  refine N_pre ?_
  k_steps
  unfold Stop
  rename News _ _ _ _ => N1
  rename Fr _ _ _ _ => F1
  rename_i l4 h4 l5 D5 vs5 h5 I5 l6
  obtain ⟨r0, r1⟩ : 0 ≤ hn.fmod 4294967296 ∧ hn.fmod 4294967296 < 4294967296 := ⟨Int.fmod_nonneg_of_pos _ (by decide), Int.fmod_lt_of_pos _ (by decide)⟩
  have hb5 : ∀ n ∈ ps ++ [hn.fmod 4294967296], 0 ≤ n ∧ n < 4294967296 := fun n hm => by
    rcases List.mem_append.mp hm with hm | hm
    · exact hb n hm
    · rw [List.mem_singleton.mp hm]; exact ⟨r0, r1⟩
  have hl5 : (ps ++ [hn.fmod 4294967296]).length ≤ 100 := by rw [List.length_append, List.length_singleton]; omega
  have hn5 : (octs nm (ps ++ [hn.fmod 4294967296]) (ps ++ [hn.fmod 4294967296]).length).toList ≠ (octs nm ps ps.length).toList := fun e => by
    have e2 := congrArg Array.size (Array.toList_inj.mp e)
    rw [octs_size _ _ _ (Nat.le_refl _), octs_size _ _ _ (Nat.le_refl _), List.length_append, List.length_singleton] at e2
    omega
  generalize ps ++ [hn.fmod 4294967296] = ps5 at I5 hb5 hl5 hn5
  refine dp_c B F1 X N1 T rfl (by ktr_room) (by ktr_units) ?_
  rintro z dz t4 t5 h6 k6 F6 N6 q1 q2
  k_steps
  rename News _ _ _ _ => N7
  rename Fr _ _ _ _ => F7
  have N8 := led_sub N7 (r := (z, instObj 748 dz) :: (dz, dpD w nm D5 t4 t5 nt) :: (D5, ({ cls := .type "list", data := .seq vs5.toArray 0 } : Obj)) :: (y, instObj 748 dy) :: (dy, dpD w nm D t1 t2 t3) :: (D, ({ cls := .type "list", data := .seq vs.toArray k } : Obj)) :: [(L + 3, o1), (L + 2, o2), (L + 1, o3)]) (by
    repeat (refine subl_cons (by k_mem) ?_)
    exact subl_nil)
  clear N7
  refine N_cons (N_Return (N_BoolAnd (N_and_cons (N_Compare1 (wpN_lift ?_)))))
  k_steps
  refine wpN_lift ?_
  k_steps
  refine N_cmpNe (N_cmp (K := hd.heap_39 w.params) (f := 688) (by ktr_units) F7 X (by k_inst) (InstAt.of_news N8 (by k_mem) (by k_mem)).type (by k_is) (by k_is) ?_)
  refine ne_c (y := z) (dy := dz) (D := D5) (k := 0) (t4 := t4) (t5 := t5) (t6 := nt) (z := y) (dz := dy) (D' := D) (k' := k) (u4 := t1) (u5 := t2) (u6 := t3) (news := [(L + 3, o1), (L + 2, o2), (L + 1, o3)]) B F7 X T rfl (by ktr_room) (by ktr_units) N8 hnm I5 hl5 hb5 hnm hI (by omega) hb ?_
  intro h10 k10 F10 N10
  rw [show ((octs nm ps5 ps5.length).toList == (octs nm ps ps.length).toList) = false from beq_eq_false_iff_ne.mpr hn5]
  refine ⟨(by intro q; cases q), ?_⟩
  k_steps
  refine N_and_cons (N_Not (N_Compare1 (wpN_lift ?_)))
  k_steps
  refine wpN_lift ?_
  k_steps
  refine N_cmpEq (N_cmp (K := hd.heap_39 w.params) (f := 681) (by ktr_units) F10 X (by k_inst) (InstAt.of_news N10 (by k_mem) (by k_mem)).type (by k_is) (by k_is) ?_)
  refine eq_c (y := z) (dy := dz) (D := D5) (k := 0) (t4 := t4) (t5 := t5) (t6 := nt) (z := y) (dz := dy) (D' := D) (k' := k) (u4 := t1) (u5 := t2) (u6 := t3) (news := [(L + 3, o1), (L + 2, o2), (L + 1, o3)]) B F10 X T rfl (by ktr_room) (by ktr_units) N10 hnm I5 hl5 hb5 hnm hI (by omega) hb ?_
  intro h11 k11 F11 N11
  rw [show ((octs nm ps5 ps5.length).toList == (octs nm ps ps.length).toList) = false from beq_eq_false_iff_ne.mpr hn5]
  refine ⟨(by intro q; cases q), ?_⟩
  k_steps
  refine N_and_last (N_Compare1 (wpN_lift ?_))
  have hfour := four_of hnm
  obtain ⟨c0, c1, c2, c3, hnmE⟩ := hfour
  have hbi : KBw.bInts nm = [(c0.toNat : Int), (c1.toNat : Int), (c2.toNat : Int), (c3.toNat : Int)] := by rw [hnmE]; rfl
  have hc0 : c0.toNat < 256 := c0.toNat_lt
  obtain ⟨x0, x1, x2⟩ := xor_one c0.toNat hc0
  k_steps
  unfold Stop
  rename News _ _ _ _ => N12
  rename Fr _ _ _ _ => F12
  refine KBa.make_K F12 N12 rfl (News.isList N12 (.head _)) (.cons (Builtin.bitXor (c0.toNat : Int) 1) _ .nil) ?_ ?_ ?_
  · intro n hm
    rw [List.mem_singleton.mp hm]
    exact ⟨x0, x1⟩
  · show 1 ≤ _; decide
  intro h13 t13 k13 F13 N13 i13
  k_steps
  unfold Stop
  rename News _ _ _ _ => N14
  rename Fr _ _ _ _ => F14
  have hpk : KBy.picked nm (some 1) none = #[c1, c2, c3] := by rw [hnmE, KBc.picked_eq]; rfl
  rw [hpk]
  refine KBy.add_bytes (by show 1 + 3 ≤ _; decide) ?_
  intro t15 k15
  have hnm2 : (byteArr [Builtin.bitXor (c0.toNat : Int) 1] ++ #[c1, c2, c3]).size = 4 := rfl
  have hne2 : (octs (byteArr [Builtin.bitXor (c0.toNat : Int) 1] ++ #[c1, c2, c3]) ps ps.length).toList ≠ (octs nm ps ps.length).toList := fun e => by
    rw [hnmE] at e
    unfold octs at e
    rw [Array.toList_append, Array.toList_append, Array.toList_append] at e
    have e2 : (Builtin.bitXor (c0.toNat : Int) 1).toNat.toUInt8 = c0 := (List.cons.inj e).1
    have e3 := congrArg UInt8.toNat e2
    have e4 : (Builtin.bitXor (c0.toNat : Int) 1).toNat.toUInt8.toNat = (Builtin.bitXor (c0.toNat : Int) 1).toNat % 256 := rfl
    rw [e4] at e3
    omega
  generalize byteArr [Builtin.bitXor (c0.toNat : Int) 1] ++ #[c1, c2, c3] = nm2 at hnm2 hne2 ⊢
  k_steps
  unfold Stop
  have N15 := led_sub N14 (r := (y, instObj 748 dy) :: (dy, dpD w nm D t1 t2 t3) :: (D, ({ cls := .type "list", data := .seq vs.toArray k } : Obj)) :: [(L + 3, o1), (L + 2, o2), (L + 1, o3)]) (by
    repeat (refine subl_cons (by k_mem) ?_)
    exact subl_nil)
  refine dp_c B F14 X N15 T rfl (by ktr_room) (by ktr_units) ?_
  rintro x dx t16 t17 h18 k18 F18 N18 q3 q4
  refine wpN_lift ?_
  k_steps
  have N19 := led_sub N18 (r := (x, instObj 748 dx) :: (dx, dpD w nm2 D t16 t17 t15) :: (D, ({ cls := .type "list", data := .seq vs.toArray k } : Obj)) :: (y, instObj 748 dy) :: (dy, dpD w nm D t1 t2 t3) :: (D, ({ cls := .type "list", data := .seq vs.toArray k } : Obj)) :: [(L + 3, o1), (L + 2, o2), (L + 1, o3)]) (by
    repeat (refine subl_cons (by k_mem) ?_)
    exact subl_nil)
  refine N_cmpNe (N_cmp (K := hd.heap_39 w.params) (f := 688) (by ktr_units) F18 X (InstAt.of_news N19 (by k_mem) (by k_mem)) (InstAt.of_news N19 (by k_mem) (by k_mem)).type (by k_is) (by k_is) ?_)
  refine ne_c (y := x) (dy := dx) (D := D) (k := k) (t4 := t16) (t5 := t17) (t6 := t15) (z := y) (dz := dy) (D' := D) (k' := k) (u4 := t1) (u5 := t2) (u6 := t3) (news := [(L + 3, o1), (L + 2, o2), (L + 1, o3)]) B F18 X T rfl (by ktr_room) (by ktr_units) N19 hnm2 hI (by omega) hb hnm hI (by omega) hb ?_
  intro h20 k20 F20 N20
  rw [show ((octs nm2 ps ps.length).toList == (octs nm ps ps.length).toList) = false from beq_eq_false_iff_ne.mpr hne2]
  refine ⟨(by intro q; cases q), ?_⟩
  exact hret _ _ _ F20
end Mine
end
/-! LawP -/
section
open PySem PySem.W PyProof.Rows PySem.Calls
namespace Mine
theorem numsOf_len (ns : List Int) : (numsOf ns).length ≤ 9 := by
  unfold numsOf
  rw [List.length_map, List.length_take]
  exact Nat.min_le_left _ _
theorem numsOf_in {ns : List Int} : ∀ n ∈ numsOf ns, 0 ≤ n := fun n hn => by
  unfold numsOf at hn
  obtain ⟨k, _, rfl⟩ := List.mem_map.mp hn
  split <;> omega
theorem headOf_in (ns : List Int) : 0 ≤ (numsOf ns).headD 0 := by
  have h := numsOf_in (ns := ns)
  cases hn : numsOf ns with
  | nil => exact Int.le_refl _
  | cons n r => exact h n (by rw [hn]; exact List.mem_cons_self)
theorem stepOf_in (n : Int) : 0 ≤ stepOf n ∧ stepOf n < 4294967296 := by
  have a0 : 0 ≤ n.fmod 4294967296 ∧ n.fmod 4294967296 < 4294967296 := ⟨Int.fmod_nonneg_of_pos _ (by decide), Int.fmod_lt_of_pos _ (by decide)⟩
  have a1 : 0 ≤ n.fmod 100 ∧ n.fmod 100 < 100 := ⟨Int.fmod_nonneg_of_pos _ (by decide), Int.fmod_lt_of_pos _ (by decide)⟩
  have a2 : 0 ≤ n.fmod 3 ∧ n.fmod 3 < 3 := ⟨Int.fmod_nonneg_of_pos _ (by decide), Int.fmod_lt_of_pos _ (by decide)⟩
  have a3 : 0 ≤ (n.fdiv 3).fmod 5 ∧ (n.fdiv 3).fmod 5 < 5 := ⟨Int.fmod_nonneg_of_pos _ (by decide), Int.fmod_lt_of_pos _ (by decide)⟩
  unfold stepOf
  generalize n.fmod 4294967296 = x at *
  generalize n.fmod 100 = y at *
  generalize n.fmod 3 = z at *
  generalize (n.fdiv 3).fmod 5 = k at *
  have hk : k = 0 ∨ k = 1 ∨ k = 2 ∨ k = 3 ∨ k = 4 := by omega
  rcases hk with rfl | rfl | rfl | rfl | rfl
  · show 0 ≤ x ∧ x < _; omega
  · show 0 ≤ 2147483648 + y ∧ 2147483648 + y < _; omega
  · show 0 ≤ y ∧ y < _; omega
  · show 0 ≤ 2147483647 + z ∧ 2147483647 + z < _; omega
  · show 0 ≤ 4294967295 - z ∧ 4294967295 - z < _; omega
theorem pathOf_len (nums : List Int) : (pathOf nums).length ≤ 6 := by
  unfold pathOf
  rw [List.length_map, List.length_take]
  exact Nat.min_le_left _ _
theorem pathOf_in (nums : List Int) : ∀ n ∈ pathOf nums, 0 ≤ n ∧ n < 4294967296 := fun n hn => by
  unfold pathOf at hn
  obtain ⟨k, _, rfl⟩ := List.mem_map.mp hn
  exact stepOf_in k
end Mine
end
/-! Lw -/
section
open PySem PySem.W PyProof.Rows PySem.Calls
namespace Mine
theorem fr_look1 {h₀ h : Heap} {L : Addr} {a : PySem.Str} {r : Option Value} {u : PySem.Str → Option Value} (F : Fr h₀ L h u) (ha : u a = r) : Fr h₀ L h (fun y => if y = a then r else u y) := by
  have e : u = fun y => if y = a then r else u y := by
    funext y
    by_cases h1 : y = a
    · subst h1
      simp [ha]
    · simp [h1]
  rw [← e]
  exact F
theorem fr_look2 {h₀ h : Heap} {L : Addr} {a b : PySem.Str} {r q : Option Value} {u : PySem.Str → Option Value} (F : Fr h₀ L h u) (ha : u a = r) (hb : u b = q) : Fr h₀ L h (fun y => if y = a then r else if y = b then q else u y) := by
  rw [← m_look2 ha hb]
  exact F
/-- the whole walk of the law's body -/
theorem law_walk {w : World} {dp un : Nat} {a : Addr} {ccd : Value} {A₀ : Around} {h₀ : Heap} {L : Addr} {mg mb : PySem.Str → Option Value} {mean : ExcName → Option Value} {loose : List PySem.Str} {s : Shared} {Q : Flow → Shared → Prop} {E : Value → Shared → Prop}
    (B : Below A₀ h₀ [] h₀) (X : (hd.heap_39 w.params).In h₀) (T : Top hd.view_39 loose mean mg mb h₀) {l : Addr} {o1 o2 o3 : Obj} {vs : List Value} {ns : List Int} {u : PySem.Str → Option Value}
    (hdp : dp + 10 < recursionLimit) (hu : un + 100 < cLine)
    (F : Fr h₀ L s.heap (fun y => if y = PySem.Str.ofString "script" then some (.ref l) else u y)) (N : News h₀ L s.heap [(L + 3, o1), (L + 2, o2), (L + 1, o3)])
    (d1 : o1.data = .cell none) (d2 : o2.data = .cell none) (d3 : o3.data = .cell none)
    (hl : h₀.IsList l vs.toArray) (hI : IntsAre vs ns) (hns : ns.length ≤ 63)
    (hret : ∀ (u' : PySem.Str → Option Value) (h' : Heap) (tk' : Nat), Fr h₀ L h' u' → Q (.ret (.bool true)) { s with heap := h', toks := tk' }) :
    wpN (model PySem.Challenge.rw_ci0003_01.row.prog w) (lawA dp un L a ccd []) (execs lawBody (lawE L a ccd)) Q E s := by
  refine law_1 B X T F N d1 d2 d3 hl hI hns ?_
  intro D1 vs1 k1 th o3 u1 h1 q1 d3 F1 N1 I1 a13 a12 a11
  refine law_2 (s := { s with heap := h1, toks := q1 }) B X T F1 N1 d1 d2 d3 I1 (numsOf_len ns) numsOf_in a13 a12 a11 ?_
  intro D vs2 k o2 u2 h2 q2 d2 F2 N2 I2 a23 a22 a21
  have hh := headOf_in ns
  generalize (numsOf ns).headD 0 = hn at d3 hh
  have hps := pathOf_len (numsOf ns)
  have hb := pathOf_in (numsOf ns)
  generalize pathOf (numsOf ns) = ps at I2 hps hb
  refine law_3 (s := { s with heap := h2, toks := q2 }) B X T F2 N2 d1 d2 d3 hh ?_
  intro nt h3 q3 F3 N3
  have hnm := nameOf_size hn
  generalize nameOf hn = nm at F3 hnm
  refine law_4 (hn := hn) (s := { s with heap := h3, toks := q3 }) B X T hdp hu F3 N3 d1 d2 I2 hps hb ?_
  intro t4 h4 q4 F4 N4
  refine law_5 (s := { s with heap := h4, toks := q4 }) B X T F4 N4 hnm ?_
  intro t5 h5 q5 F5 N5
  refine law_6 (s := { s with heap := h5, toks := q5 }) B X T hdp hu F5 N5 d2 I2 hps hb hnm ?_
  intro h6 q6 F6 N6
  refine law_7 (s := { s with heap := h6, toks := q6 }) B X T hdp hu F6 N6 d1 d2 d3 hh I2 hps hb a23 ?_
  intro o1 u7 h7 q7 F7 N7
  refine law_8 (s := { s with heap := h7, toks := q7 }) B X T hdp hu F7 N7 d2 d3 I2 hps hb ?_
  intro u8 h8 q8 F8 N8
  refine law_9 (s := { s with heap := h8, toks := q8 }) B X T hdp hu F8 N8 hps hb ?_
  intro u9 h9 q9 F9 N9
  have F9' := fr_look1 (a := PySem.Str.ofString "name") (r := some (.bytes nm nt)) F9 (by rfl)
  refine law_10 (s := { s with heap := h9, toks := q9 }) B X T F9' N9 d2 I2 hps hb hnm ?_
  intro t10 h10 q10 F10 N10
  refine law_11 (s := { s with heap := h10, toks := q10 }) B X T hdp hu F10 N10 d2 I2 hps hb hnm ?_
  intro y dy y' dy' D' vs' k' v1 v2 v3 v4 v5 v6 h11 q11 I' F11 N11
  refine law_12 (s := { s with heap := h11, toks := q11 }) B X T hdp hu F11 N11 d2 I2 I' hps hb hnm ?_
  intro h12 q12 F12 N12
  have F12' := fr_look2 (a := PySem.Str.ofString "way") (b := PySem.Str.ofString "name") (r := some (.ref y)) (q := some (.bytes nm nt)) F12 (by rfl) (by rfl)
  refine law_13 (s := { s with heap := h12, toks := q12 }) B X T hdp hu F12' N12 d2 d3 hh I2 hps hb hnm ?_
  intro u13 h13 q13 F13
  exact hret u13 h13 q13 F13
end Mine
end
/-! Ltop -/
section
open PySem PySem.W PyProof.Rows PySem.Calls
theorem Mine.law_holds : PySem.Challenge.rw_ci0003_01.Holds := Mine.hd (by
  k_fill
  intro w s₀ s₁ mg mb G Y fa o pm cd doc dV kV ho hd hcd hD hmg hg args vals as hpre hlay hrd hwl hlo
  have KX := kIn_of Y
  have X := (Ground.X G).1
  have V := (Ground.X G).2
  refine Ground.open G ?_
  intro T B D TE TW
  try (refine guard_noD D (by decide +kernel) ?_; clear D)
  wrow_args hpre hlay hrd hwl hlo
  have he := Dflts.none hD rfl; subst he; have he := Dflts.noKw hD; subst he
  rename IntsAre _ _ => hI
  rename Heap.IsList _ _ _ => hl
  refine wpN_call (Mine.call_cellsNN (by decide) ho (fd_plain hd) (Top.nolimit T) hcd rfl (kinds_of (by kinds_ok)) (by decide) fun h₁ tk₁ cells F N0 X0 => ?_)
  k_cells X0
  clear hd hD hcd
  rename_i hcond _ o1 o2 o3 d1 d2 d3
  (show wpN _ (Mine.lawA _ _ _ _ _ _) (execs Mine.lawBody (Mine.lawE _ _ _)) _ _ _)
  refine Mine.law_walk (w := w) (below_caller s₁.heap) KX T ?_ ?_ F N0 d1 d2 d3 hl hI ?_ ?_
  · decide
  · decide
  · omega
  · intro u' h' tk' F'
    dsimp only
    refine goodW_bool F' hg (raisesW_false ?_) ?_
    · wrow_none_raised
    · kc_post)
end
theorem PySem.Challenge.cw_ci0003_01_holds : PySem.Challenge.rw_ci0003_01.Holds := by
  exact Mine.law_holds
