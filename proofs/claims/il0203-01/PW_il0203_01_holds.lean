import PyProof.Rows.All
import Wide.All
import OpenK.AllK
import Wide.FinOn
import PyProof.FactsAll.tuple_2
import KE.KSortTup
import PyProof.Draws
import PyProof.DictCompW
import KE.KEqDat
import PyProof.SliceStr2
import PySem.Challenge.RW_il0203_01

set_option compiler.extract_closed false
section
open PySem PySem.W PyProof.Rows
set_option Elab.async false
set_option maxRecDepth 100000
set_option maxHeartbeats 8000000
namespace Mine
open_top hd for PySem.Challenge.rw_il0203_01
end Mine
end

section
open PySem PySem.W PyProof.Rows PySem.Calls PySem.Spec
set_option Elab.async false
set_option maxRecDepth 100000
namespace Mine
open Builtin Builtin.Re

theorem slot_search : Slot "re.Pattern" "search" "re.Pattern.search" :=
  .of (owner := "re.Pattern") (n := "search") (by rw [typeLookup_type, builtinLookup_eq_fast]; kernel_rfl) (by decide +kernel) (by decide +kernel) (by decide +kernel)
    (by first | exact .inl (by decide +kernel) | exact .inr (by decide +kernel)) (by rw [isSubtype_type]; kernel_rfl)
theorem pa_pattern : PlainAttrs "re.Pattern" :=
  ⟨⟨"object.__getattribute__", by rw [typeLookup_type, builtinLookup_eq_fast]; kernel_rfl, by decide +kernel⟩, by rw [typeLookup_type, builtinLookup_eq_fast]; kernel_rfl⟩
theorem type_search : typeOf (.builtin "re.Pattern.search") = pure (.type "method_descriptor") := by show builtinType _ = _; rw [builtinType_eq_fast]; kernel_rfl
theorem entry_search : entryFor table "re.Pattern.search" = some Builtin.«re.Pattern.search» := entryFor_of_tree (by kernel_rfl)
theorem args_search (a b : Value) : argsOk "re.Pattern.search" ⟨[a, b], []⟩ := by unfold argsOk; kernel_rfl

theorem named_search (v : Value) : reNamed "re.Pattern.search" "search" ["string", "pos", "endpos"] 1 [v] [] = pure [some v, none, none] := rfl

/-- no sign of the text is in the set -/
def Free (code : Array Nat) (l : Nat → Prop) : Prop := ∀ c, l c → ∀ seen, ∃ seen', Sre.inSet code c code.size 5 true seen = .ok (false, seen')

theorem admitted_none {m : Sre.M} {P : Nat → Prop} (hF : Free m.code P) (ht : ∀ i, i < m.lim → P (m.text.getD i 0)) : ∀ (fuel i : Nat) (seen : Sre.Seen), ∃ seen', Sre.M.admitted m fuel i seen = .ok (none, seen')
  | 0, i, seen => ⟨seen, rfl⟩
  | fuel + 1, i, seen => by
    unfold Sre.M.admitted
    by_cases h : i ≥ m.lim
    · rw [if_pos h]; exact ⟨_, rfl⟩
    · rw [if_neg h]
      obtain ⟨seen', e⟩ := hF _ (ht i (by omega)) seen
      rw [e]
      exact admitted_none hF ht fuel (i + 1) seen'

theorem admitted_ne1 {m : Sre.M} {code text : Array Nat} {lim : Nat} {P : Nat → Prop} (hc : m.code = code) (hx : m.text = text) (hl : m.lim = lim) (hF : Free code P) (ht : ∀ i, i < lim → P (text.getD i 0)) {fuel i k : Nat} {seen seen' : Sre.Seen}
    (e : Sre.M.admitted m fuel i seen = .ok (some k, seen')) : False := by
  subst hc hx hl
  obtain ⟨_, e'⟩ := admitted_none (m := m) hF ht fuel i seen
  rw [e'] at e
  cases e
theorem admitted_ne2 {m : Sre.M} {code text : Array Nat} {lim : Nat} {P : Nat → Prop} (hc : m.code = code) (hx : m.text = text) (hl : m.lim = lim) (hF : Free code P) (ht : ∀ i, i < lim → P (text.getD i 0)) {fuel i : Nat} {seen : Sre.Seen} {why : String}
    (e : Sre.M.admitted m fuel i seen = .error why) : False := by
  subst hc hx hl
  obtain ⟨_, e'⟩ := admitted_none (m := m) hF ht fuel i seen
  rw [e'] at e
  cases e

theorem forIn_rules {M : Model} {A : Around} {E : Value → Shared → Prop} {f : Nat → PUnit → Sem (ForInStep PUnit)} (hf : ∀ i (Q' : ForInStep PUnit → Shared → Prop) s, Q' (.yield ⟨⟩) s → wpAny M A (f i ⟨⟩) Q' E s) :
    ∀ (l : List Nat) (s : Shared) (Q : PUnit → Shared → Prop), Q ⟨⟩ s → wpAny M A (forIn l ⟨⟩ f) Q E s
  | [], s, Q, h => by rw [List.forIn_nil]; exact wpAny_pure h
  | i :: l, s, Q, h => by
    rw [List.forIn_cons]
    exact wpAny_bind (hf i _ s (forIn_rules hf l s Q h))

theorem runToEnd_none {M : Model} {A : Around} {E : Value → Shared → Prop} {s : Shared} {Q : Option Sre.M → Shared → Prop} {m : Sre.M} (ho : m.outcome = none) (ha : m.answer = some false) (hf : m.frames = []) (h : Q none s) : wpAny M A (reRunToEnd m) Q E s := by
  unfold reRunToEnd
  have h1 : m.step = { m with outcome := some .failed } := by
    unfold Sre.M.step
    rw [ho, ha, hf]
    simp
  have h2 : m.runFor reTurnSteps = { m with outcome := some .failed } := by
    show Sre.M.runFor (3 + 1) m = _
    unfold Sre.M.runFor
    rw [ho, h1]
    rfl
  have h3 : ∀ k, reDrive (k + 1) m = pure { m with outcome := some .failed } := fun k => by
    unfold reDrive
    rw [h2]
    rfl
  have h4 : reDrive (2 ^ 64) m = pure { m with outcome := some .failed } := h3 (2 ^ 64 - 1)
  rw [h4]
  refine wpAny_bind (wpAny_pure ?_)
  refine wpAny_bind (forIn_rules (fun i Q' s' hq => ?_) _ s _ ?_)
  · dsimp only
    split
    · exact wpAny_bind (wpAny_rule (wpAny_pure hq))
    · exact wpAny_pure hq
  · exact wpAny_pure h

def codeN : Array Nat := #[14, 10, 4, 1, 1, 22, 0, 31, 16, 127, 0, 13, 7, 22, 0, 31, 16, 127, 0, 1]
def codeV : Array Nat := #[14, 14, 4, 1, 1, 9, 4294966783, 0, 0, 2147483648, 0, 0, 0, 0, 0, 13, 11, 9, 4294966783, 0, 0, 2147483648, 0, 0, 0, 0, 0, 1]
def okSign (c : Nat) : Prop := 32 ≤ c ∧ c ≠ 127 ∧ c < 256
theorem free_N : Free codeN okSign := by
  intro c ⟨h1, h2, h3⟩ seen
  show ∃ seen', Sre.inSet codeN c (17 + 3) 5 true seen = _
  refine ⟨((seen.add 22).add 16).add 0, ?_⟩
  unfold Sre.inSet
  show (if (decide (0 ≤ c) && decide (c ≤ 31)) = true then _ else Sre.inSet codeN c (16 + 3) 8 true (seen.add 22)) = _
  rw [if_neg (by simp; omega)]
  unfold Sre.inSet
  show (if (c == 127) = true then _ else Sre.inSet codeN c (15 + 3) 10 true ((seen.add 22).add 16)) = _
  rw [if_neg (by simp; omega)]
  rfl
theorem free_V : Free codeV okSign := by
  intro c ⟨h1, h2, h3⟩ seen
  show ∃ seen', Sre.inSet codeV c (25 + 3) 5 true seen = _
  refine ⟨(seen.add 9).add 0, ?_⟩
  unfold Sre.inSet
  show (if (decide (c < 256) && (codeV.getD (5 + (1 + c / 32)) 0).testBit (c % 32)) = true then _ else Sre.inSet codeV c (24 + 3) 14 true (seen.add 9)) = _
  have key : ∀ k : Fin 256, 32 ≤ k.val → k.val ≠ 127 → (codeV.getD (5 + (1 + k.val / 32)) 0).testBit (k.val % 32) = false := by decide +kernel
  rw [key ⟨c, h3⟩ h1 h2]
  simp only [Bool.and_false, Bool.false_eq_true, if_false]
  rfl

theorem search_says {code text : Array Nat} {lim : Nat} (h0 : code = codeN ∨ code = codeV) (ht : ∀ i, i < lim → okSign (text.getD i 0)) :
    let m := Sre.forSearch code text 0 0 lim false
    m.outcome = none ∧ m.answer = some false ∧ m.frames = [] := by
  have hF : Free code okSign := h0.elim (fun h => h ▸ free_N) (fun h => h ▸ free_V)
  have hh : (Sre.header code).1 = 1 := by rcases h0 with rfl | rfl <;> rfl
  have hset : ∀ m : Sre.M, m.code = code → m.hasFirstSet = true := by
    intro m hm
    unfold Sre.M.hasFirstSet
    rw [hm]
    rcases h0 with rfl | rfl <;> rfl
  unfold Sre.forSearch
  dsimp only
  split
  · exact ⟨rfl, rfl, rfl⟩
  · unfold Sre.M.attemptFrom
    rw [hset _ rfl]
    simp only [Bool.not_true, Bool.false_eq_true, if_false]
    split
    · rename_i e
      exact (admitted_ne1 rfl rfl rfl hF ht e).elim
    · exact ⟨rfl, rfl, rfl⟩
    · rename_i e
      exact (admitted_ne2 rfl rfl rfl hF ht e).elim

section
variable {prog : Program} {w : World} {A : Around} {E : Value → Shared → Prop} {s : Shared}
theorem call_search {p P : Addr} {x : Str} {t : Tok} {op oP : Obj} {pat fl : Value} {items : Array Value} {n : Nat} {z₁ z₂ : Tok} {Q : Value → Shared → Prop}
    (hp : s.heap.get? p = some op) (hpc : op.cls = .type "re.Pattern") (hpd : op.data = .fields #[pat, fl, .int 0 z₁, .none, .none, .ref P, .int 0 z₂])
    (hP : s.heap.get? P = some oP) (hPd : oP.data = .seq items n) (hcode : (items.map reRawOf).map (·.toNat) = codeN ∨ (items.map reRawOf).map (·.toNat) = codeV)
    (hx : ∀ c ∈ x.cps, okSign c) (h : Q .none s) : wpAny (model prog w) A (call (.builtin "re.Pattern.search") [.ref p, .str x t]) Q E s := by
  refine wpAny_call_entry slot_search ⟨_, hp, hpc⟩ entry_search ?_ (args_search _ _)
  unfold Builtin.«re.Pattern.search»
  refine wpAny_bind ?_
  unfold reTarget
  dsimp only
  rw [named_search]
  refine wpAny_bind (wpAny_pure ?_)
  dsimp only
  refine wpAny_bind (wpAny_pure ?_)
  refine wpAny_bind (wpAny_pure ?_)
  refine wpAny_bind (wpAny_fieldsOf hp hpd ?_)
  unfold reTextOf
  refine wpAny_bind (wpAny_bind (wpAny_pure ?_))
  refine wpAny_pure ?_
  dsimp only
  refine wpAny_ite ?_
  rw [if_neg (by simp)]
  refine wpAny_ite ?_
  rw [if_neg (by simp [reRawNat])]
  refine wpAny_bind (m := reNoCollectionInside (Value.str x t) 0) (wpAny_pure ?_)
  unfold reRawItems
  refine wpAny_bind (wpAny_bind (wpAny_seqItems (a := P) hP hPd (wpAny_pure ?_)))
  refine wpAny_pure ?_
  have hs := search_says (code := (items.map reRawOf).map (·.toNat)) (text := x.cps) (lim := min (2 ^ 63 - 1 : Int).toNat x.cps.size) hcode (fun i hi => by
    have hi' : i < x.cps.size := Nat.lt_of_lt_of_le hi (Nat.min_le_right _ _)
    have : x.cps.getD i 0 = x.cps[i] := by simp [Array.getD, hi']
    rw [this]
    exact hx _ (Array.getElem_mem hi'))
  unfold reAnswer
  refine wpAny_bind ?_
  have h0 : min (Int.toNat 0) x.cps.size = 0 := by simp
  dsimp only at hs ⊢
  rw [h0]
  refine runToEnd_none hs.1 hs.2.1 hs.2.2 ?_
  exact wpAny_pure ⟨_, rfl, h⟩

variable {K : Frag} {h₀ : Heap} {L : Addr} {m : Str → Option Value}
theorem getMethod_search {p : Addr} {fs : Array Value} {sl : Array (Option Value)} {pl : Sem Bool} {Q : Value × List Value → Shared → Prop} (F : Fr h₀ L s.heap m) (X : K.In h₀) (hl : K.lookup p = some ⟨.type "re.Pattern", none, .fields fs, sl⟩)
    (h : Q (.builtin "re.Pattern.search", [.ref p]) s) : wpAny (model prog w) A (getMethod (.ref p) (Str.ofString "search") pl) Q E s :=
  getMethod_builtin ⟨_, F.keep _ _ (X _ _ hl), rfl⟩ pa_pattern slot_search type_search (fun a e => by cases e; exact ⟨_, F.keep _ _ (X _ _ hl), rfl⟩) h
theorem search_K {p P : Addr} {x : Str} {t : Tok} {pat fl : Value} {items : Array Value} {n : Nat} {z₁ z₂ : Tok} {sl sl' : Array (Option Value)} {Q : Value → Shared → Prop} (F : Fr h₀ L s.heap m) (X : K.In h₀)
    (hl : K.lookup p = some ⟨.type "re.Pattern", none, .fields #[pat, fl, .int 0 z₁, .none, .none, .ref P, .int 0 z₂], sl⟩) (hP : K.lookup P = some ⟨.type "tuple", none, .seq items n, sl'⟩)
    (hcode : (items.map reRawOf).map (·.toNat) = codeN ∨ (items.map reRawOf).map (·.toNat) = codeV)
    (hx : ∀ c ∈ x.cps, okSign c) (h : Q .none s) : wpAny (model prog w) A (call (.builtin "re.Pattern.search") [.ref p, .str x t]) Q E s :=
  call_search (F.keep _ _ (X _ _ hl)) rfl rfl (F.keep _ _ (X _ _ hP)) rfl hcode hx h
end
end Mine
end

section
open PySem PySem.W PyProof.Rows PySem.Calls PySem.Spec
set_option Elab.async false
set_option maxRecDepth 100000
namespace Mine

theorem ne_of_all_lt {l : List (Addr × Obj)} {d e : Addr} (h : ∀ p ∈ l, p.1 < d) (hle : @LE.le Nat _ d e) : ∀ p ∈ l, p.1 ≠ e := fun p hp => Nat.ne_of_lt (Nat.lt_of_lt_of_le (h p hp) hle)
theorem allLt_ne {d e : Addr} {l : List (Addr × Obj)} (h : AllLt d l) (hle : @LE.le Nat _ d e) : ∀ p ∈ l, p.1 ≠ e := by
  induction l with
  | nil => intro p hp; exact absurd hp (List.not_mem_nil)
  | cons q r ih =>
    intro p hp
    rcases List.mem_cons.mp hp with e' | hp
    · rw [e']
      exact Nat.ne_of_lt (Nat.lt_of_lt_of_le h.1 hle)
    · exact ih h.2 p hp
/-- the end of a turn: on to the next, out by break, out by return -/
def TurnEnd (h₀ : Heap) (L : Addr) (wr : List Addr) (own : List (Addr × Obj)) (J : (Str → Option Value) → List (Addr × Obj) → Prop) (Q : Flow → Shared → Prop) (s₁ : Shared) (f : Flow) (s₂ : Shared) : Prop :=
  match f with
  | .ret v => Q (.ret v) s₂
  | .brk => Q .next s₂
  | _ => ∃ h' tk m' news', s₂ = { s₁ with heap := h', toks := tk } ∧ Fr h₀ L h' m' ∧ News h₀ L h' news' ∧ News h₀ L h' own ∧ (∀ p ∈ news', p.1 ∉ wr) ∧ J m' news'

/-- a loop over what an iterator walks, by what holds at its turns -/
def Turns (prog : Program) (w : World) (A : Around) (h₀ : Heap) (env : Env) (target : Expr) (body : List Stmt) (Q : Flow → Shared → Prop) (E : Value → Shared → Prop) (it : Value) (s₁ : Shared) : Prop :=
  ∃ (I : Addr) (fp wr : List Addr) (n : Nat) (P : Nat → Value → Prop) (St : Nat → Heap → Prop) (m : Str → Option Value) (news : List (Addr × Obj)) (J : Nat → (Str → Option Value) → List (Addr × Obj) → Prop),
    it = .ref I ∧ Walks prog w A I fp wr n P St ∧ env.locals ∉ fp ∧ (∀ b ∈ wr, h₀.get? b = none) ∧ (∀ p ∈ news, p.1 ∉ wr) ∧ St 0 s₁.heap ∧ Fr h₀ env.locals s₁.heap m ∧ News h₀ env.locals s₁.heap news ∧ J 0 m news ∧
    (∀ i (s' : Shared) v (Q' : Unit → Shared → Prop), P i v → St (i + 1) s'.heap → Q' () s' → wpAny (model prog w) A (letOwnedTupleGo target (.ref I) v) Q' E s') ∧
    (∀ i v m₁ news₁ h tk own, i < n → P i v → J i m₁ news₁ → (∀ p ∈ news₁, p.1 ∉ wr) → (∀ p ∈ own, p.1 ∈ fp) → (∀ b ∈ fp, h₀.get? b = none → ∀ o, h.get? b = some o → (b, o) ∈ own) → St (i + 1) h → Fr h₀ env.locals h m₁ → News h₀ env.locals h news₁ → News h₀ env.locals h own →
      wpAny (model prog w) A (assign target env v) (fun _ s₂ => wpAny (model prog w) A (execs body env) (TurnEnd h₀ env.locals wr own (J (i + 1)) Q { s₁ with heap := h, toks := tk }) E s₂) E { s₁ with heap := h, toks := tk }) ∧
    ∀ h tk m₁ news₁, J n m₁ news₁ → (∀ p ∈ news₁, p.1 ∉ wr) → Fr h₀ env.locals h m₁ → News h₀ env.locals h news₁ → Q .next { s₁ with heap := h, toks := tk }

section
variable {prog : Program} {w : World} {A : Around} {s : Shared} {env : Env} {h₀ : Heap}

theorem for_turns {E : Value → Shared → Prop} {Q : Flow → Shared → Prop} {target iter : Expr} {pos : Pos} {body : List Stmt} (h₀ : Heap)
    (h : wpAny (model prog w) A (eval iter env) (fun xv s₁ => wpAny (model prog w) A (pyIter xv) (fun it s₂ => Turns prog w A h₀ env target body Q E it s₂) E s₁) E s)
    (hs : ∀ x, foldedSetIterable iter env x = pure x := by intro _; rfl)
    (hE : PassesOwn (model prog w) A env E := by passes_own) :
    wpAny (model prog w) A (exec (.For target iter body [] pos) env) Q E s := by
  refine wpAny_For (wpAny_mono h (fun xv s₁ h₁ => wpAny_mono h₁ (fun it s₂ h₂ => ?_) fun _ _ e => e) fun _ _ e => e) hs
  obtain ⟨I, fp, wr, n, P, St, m, news, J, rfl, W, hLf, hwr, hnw, hst, F, N, h0, hgo, step, done⟩ := h₂
  have hLw : env.locals ∉ wr := fun q => hLf (W.sub _ q)
  refine codeAny_forLoop_any
    (fun k s' => ∃ i h' tk m' news', k = n + 1 - i ∧ i ≤ n ∧ s' = { s₂ with heap := h', toks := tk } ∧ St i h' ∧ Fr h₀ env.locals h' m' ∧ News h₀ env.locals h' news' ∧ (∀ p ∈ news', p.1 ∉ wr) ∧ J i m' news')
    ?_ (n + 1) ⟨0, s₂.heap, s₂.toks, m, news, rfl, Nat.zero_le _, rfl, hst, F, N, hnw, h0⟩
  rintro k s' ⟨i, h', tk, m', news', rfl, hi, rfl, hst', F', N', hnw', hJ⟩
  -- what the iterator's step keeps
  have kept : ∀ h₁ : Heap, (∀ b o, b ∉ wr → h'.get? b = some o → h₁.get? b = some o) → Fr h₀ env.locals h₁ m' ∧ News h₀ env.locals h₁ news' := fun h₁ hk => by
    refine ⟨⟨F'.ns.at' fun o e => hk _ o hLw e, fun b o e => hk b o (fun hb => ?_) (F'.keep b o e), F'.above⟩, fun p hp => ⟨hk _ _ (hnw' p hp) (N' p hp).1, (N' p hp).2⟩⟩
    rw [hwr b hb] at e; cases e
  rcases Nat.lt_or_ge i n with hlt | hge
  · refine W.item i _ _ _ hlt hst' fun v h₁ tk₁ hP hst₁ hk₁ => ?_
    obtain ⟨F₁, N₁⟩ := kept h₁ hk₁
    have No : News h₀ env.locals h₁ (ownOf h₀ fp h₁) := news_ownOf hLf
    refine wpAny_passesOwn hE (hgo i _ v _ hP hst₁ ?_)
    have turn := step i v m' news' h₁ tk₁ (ownOf h₀ fp h₁) hlt hP hJ hnw' ownOf_sub (fun b hb hn o e => mem_ownOf hb hn e) hst₁ F₁ N₁ No
    refine wpAny_passesOwn hE (wpAny_mono turn (fun _ s₃ h₃ => wpAny_passesOwn hE (wpAny_mono h₃ (fun f s₄ h₄ => ?_) fun _ _ e => e)) fun _ _ e => e)
    have fin : (∃ h' tk m' news', s₄ = { s₂ with heap := h', toks := tk } ∧ Fr h₀ env.locals h' m' ∧ News h₀ env.locals h' news' ∧ News h₀ env.locals h' (ownOf h₀ fp h₁) ∧ (∀ p ∈ news', p.1 ∉ wr) ∧ J (i + 1) m' news') →
        ∃ k', k' < n + 1 - i ∧ ∃ i' h' tk m' news', k' = n + 1 - i' ∧ i' ≤ n ∧ s₄ = { s₂ with heap := h', toks := tk } ∧ St i' h' ∧ Fr h₀ env.locals h' m' ∧ News h₀ env.locals h' news' ∧ (∀ p ∈ news', p.1 ∉ wr) ∧ J i' m' news' := by
      rintro ⟨h₅, tk₅, m₅, news₅, rfl, F₅, N₅, O₅, hn₅, J₅⟩
      refine ⟨n + 1 - (i + 1), by omega, i + 1, h₅, tk₅, m₅, news₅, rfl, hlt, rfl, W.frame _ _ _ hst₁ fun b hb o e => ?_, F₅, N₅, hn₅, J₅⟩
      cases hn : h₀.get? b with
      | some o₀ =>
        have e₀ := F₁.keep b o₀ hn
        rw [e] at e₀
        rw [Option.some.inj e₀]
        exact F₅.keep b o₀ hn
      | none => exact (O₅ _ (mem_ownOf hb hn e)).1
    cases f with
    | next => exact fin h₄
    | cont => exact fin h₄
    | brk => exact h₄
    | ret v => exact h₄
  · obtain rfl : i = n := Nat.le_antisymm hi hge
    refine W.done _ _ _ hst' fun h₁ tk₁ hk₁ => wpAny_execs_nil ?_
    obtain ⟨F₁, N₁⟩ := kept h₁ hk₁
    exact done h₁ tk₁ m' news' hJ hnw' F₁ N₁

theorem TurnEnd.mono {h₀ : Heap} {L : Addr} {wr : List Addr} {own own' : List (Addr × Obj)} {J J' : (Str → Option Value) → List (Addr × Obj) → Prop} {Q : Flow → Shared → Prop} {s₁ : Shared} {f : Flow} {s₂ : Shared}
    (h : TurnEnd h₀ L wr own J Q s₁ f s₂) (ho : ∀ p ∈ own', p ∈ own) (hJ : ∀ m n, J m n → J' m n) : TurnEnd h₀ L wr own' J' Q s₁ f s₂ := by
  have key : (∃ h' tk m' news', s₂ = { s₁ with heap := h', toks := tk } ∧ Fr h₀ L h' m' ∧ News h₀ L h' news' ∧ News h₀ L h' own ∧ (∀ p ∈ news', p.1 ∉ wr) ∧ J m' news') →
      ∃ h' tk m' news', s₂ = { s₁ with heap := h', toks := tk } ∧ Fr h₀ L h' m' ∧ News h₀ L h' news' ∧ News h₀ L h' own' ∧ (∀ p ∈ news', p.1 ∉ wr) ∧ J' m' news' := by
    rintro ⟨h', tk, m', news', e, F, N, O, hn, j⟩
    exact ⟨h', tk, m', news', e, F, N, fun p hp => O p (ho p hp), hn, hJ _ _ j⟩
  cases f with
  | next => exact key h
  | cont => exact key h
  | brk => exact h
  | ret v => exact h

/-- over a list that the ledger bears and no turn changes -/
theorem turns_list {E : Value → Shared → Prop} {Q : Flow → Shared → Prop} {target : Expr} {body : List Stmt} {Lh : Addr} {items : List Value} {o : Obj} {nn : Nat} {m : Str → Option Value} {news : List (Addr × Obj)} (J : Nat → (Str → Option Value) → List (Addr × Obj) → Prop)
    (hh : A.handled = none) (F : Fr h₀ env.locals s.heap m) (N : News h₀ env.locals s.heap news) (hm : (Lh, o) ∈ news) (hc : o.cls = .type "list") (hd : o.data = .seq items.toArray nn) (h0 : J 0 m news)
    (hgo : ∀ I i (s' : Shared) v (Q' : Unit → Shared → Prop), items[i]? = some v → s'.heap.IsListIter I Lh (i + 1) → Q' () s' → wpAny (model prog w) A (letOwnedTupleGo target (.ref I) v) Q' E s')
    (step : ∀ i v m₁ news₁ h tk I oI, items[i]? = some v → J i m₁ news₁ → (∀ p ∈ news₁, p.1 ≠ I) → I ≠ Lh → Fr h₀ env.locals h m₁ → News h₀ env.locals h ((I, oI) :: (Lh, o) :: news₁) →
      wpAny (model prog w) A (assign target env v) (fun _ s₂ => wpAny (model prog w) A (execs body env) (TurnEnd h₀ env.locals [I] [(I, oI), (Lh, o)] (J (i + 1)) Q { s with heap := h, toks := tk }) E s₂) E { s with heap := h, toks := tk })
    (done : ∀ h tk m₁ news₁, J items.length m₁ news₁ → Fr h₀ env.locals h m₁ → News h₀ env.locals h news₁ → Q .next { s with heap := h, toks := tk }) :
    wpAny (model prog w) A (pyIter (.ref Lh)) (fun it s₂ => Turns prog w A h₀ env target body Q E it s₂) E s := by
  have hmm := N _ hm
  have hls : s.heap.IsList Lh items.toArray := ⟨o, hmm.1, hc, nn, hd⟩
  have hlt : Lh < s.heap.objs.size := Heap.lt_size hmm.1
  have hne : Lh ≠ s.heap.objs.size := Nat.ne_of_lt hlt
  refine wpAny_pyIter_list hls ?_
  have W := Walks.list (prog := prog) (w := w) hh s.heap.objs.size Lh hne items.toArray
  have hI0 : h₀.get? s.heap.objs.size = none := next_is_new F
  have hL0 : h₀.get? Lh = none := hmm.2.2
  let St : Nat → Heap → Prop := fun i h => (h.IsListIter s.heap.objs.size Lh i ∧ h.IsList Lh items.toArray) ∧ h.get? Lh = some o
  have W' : Walks prog w A s.heap.objs.size [s.heap.objs.size, Lh] [s.heap.objs.size] items.toArray.size (fun i v => items.toArray[i]? = some v) St := by
    refine ⟨W.sub, fun i h h' st hk => ⟨W.frame i h h' st.1 hk, hk Lh (by simp) o st.2⟩, fun i s' Q' E' hi st hQ => ?_, fun s' Q' E' st hQ => W.done s' Q' E' st.1 hQ, fun i s' Q' E' st hQ => W.self i s' Q' E' st.1 hQ⟩
    exact W.item i s' Q' E' hi st.1 fun v h' tk hp hst hk => hQ v h' tk hp ⟨hst, hk Lh o (by simpa using hne) st.2⟩ hk
  refine ⟨_, _, _, _, _, _, m, news, J, rfl, W', ?_, ?_, ?_, ⟨⟨⟨_, Heap.get?_push_size _ rfl, rfl, rfl⟩, hls.at fun o e => Heap.get?_push_of_some _ e⟩, Heap.get?_push_of_some _ hmm.1⟩, F.push _, (fun p hp => ⟨Heap.get?_push_of_some _ (N p hp).1, (N p hp).2⟩), h0, ?_, ?_, ?_⟩
  · intro hq
    rcases List.mem_cons.mp hq with e | hq
    · exact absurd F.ns.lt (e ▸ Nat.lt_irrefl _)
    · exact hmm.2.1 (List.mem_singleton.mp hq).symm
  · intro b hb
    rw [List.mem_singleton.mp hb]; exact hI0
  · intro p hp hI
    exact absurd (Heap.lt_size (N p hp).1) ((List.mem_singleton.mp hI) ▸ Nat.lt_irrefl _)
  · intro i s' v Q' hv st hQ'
    exact hgo _ i s' v Q' (by simpa using hv) st.1.1 hQ'
  · intro i v m₁ news₁ h tk own hi hP hJ hn hof hcov st F₁ N₁ O₁
    obtain ⟨oI, hoI, _⟩ := id st.1.1
    have mI := hcov s.heap.objs.size (by simp) hI0 oI hoI
    have mL := hcov Lh (by simp) hL0 o st.2
    have sub : ∀ p ∈ own, p ∈ [(s.heap.objs.size, oI), (Lh, o)] := fun p hp => by
      have e := (O₁ p hp).1
      rcases List.mem_cons.mp (hof p hp) with h1 | h1
      · rw [h1, hoI] at e
        have : p = (s.heap.objs.size, oI) := Prod.ext h1 (Option.some.inj e).symm
        rw [this]; exact List.mem_cons_self
      · have h1 := List.mem_singleton.mp h1
        rw [h1, st.2] at e
        have : p = (Lh, o) := Prod.ext h1 (Option.some.inj e).symm
        rw [this]; exact List.mem_cons_of_mem _ List.mem_cons_self
    refine wpAny_mono (step i v m₁ news₁ h tk _ oI (by simpa using hP) hJ (fun p hp q => hn p hp (by rw [q]; exact List.mem_singleton.mpr rfl)) (Ne.symm hne) F₁ (fun p hp => ?_)) (fun _ s₂ h₂ => wpAny_mono h₂ (fun f s₃ h₃ => h₃.mono sub fun _ _ j => j) fun _ _ e => e) fun _ _ e => e
    rcases List.mem_cons.mp hp with rfl | hp
    · exact O₁ _ mI
    · rcases List.mem_cons.mp hp with rfl | hp
      · exact O₁ _ mL
      · exact N₁ p hp
  · intro h tk m₁ news₁ hJ hn F₁ N₁
    have : items.toArray.size = items.length := by simp
    exact done h tk m₁ news₁ (this ▸ hJ) F₁ N₁

/-- the names that a loop stores are as u says, the others as m -/
def over : List Str → (Str → Option Value) → (Str → Option Value) → Str → Option Value
  | [], _, m => m
  | n :: r, u, m => fun z => if z = n then u n else over r u m z
theorem over_off : ∀ {names : List Str} {u m : Str → Option Value} {z : Str}, z ∉ names → over names u m z = m z
  | [], _, _, _, _ => rfl
  | n :: r, u, m, z, h => by
    show (if z = n then u n else over r u m z) = m z
    rw [if_neg fun (e : z = n) => h (by rw [e]; exact List.mem_cons_self), over_off fun e => h (List.mem_cons_of_mem _ e)]
theorem over_on : ∀ {names : List Str} {u m : Str → Option Value} {z : Str}, z ∈ names → over names u m z = u z
  | n :: r, u, m, z, h => by
    show (if z = n then u n else over r u m z) = u z
    by_cases e : z = n
    · rw [if_pos e, e]
    · rw [if_neg e]; exact over_on (by rcases List.mem_cons.mp h with h | h; exact absurd h e; exact h)
theorem over_of {names : List Str} {m' m : Str → Option Value} (h : ∀ z, z ∉ names → m' z = m z) : m' = over names m' m := by
  funext z
  by_cases e : z ∈ names
  · rw [over_on e]
  · rw [over_off e, h z e]
theorem over_self (names : List Str) (m : Str → Option Value) : m = over names m m := over_of fun _ _ => rfl

theorem turns_listN {E : Value → Shared → Prop} {Q : Flow → Shared → Prop} {target : Expr} {body : List Stmt} {Lh : Addr} {items : List Value} {o : Obj} {nn : Nat} {m : Str → Option Value} {news : List (Addr × Obj)} (names : List Str) (P : Nat → (Str → Option Value) → List (Addr × Obj) → Prop)
    (hh : A.handled = none) (F : Fr h₀ env.locals s.heap m) (N : News h₀ env.locals s.heap news) (hm : (Lh, o) ∈ news) (hc : o.cls = .type "list") (hd : o.data = .seq items.toArray nn) (h0 : P 0 m news)
    (hgo : ∀ I i (s' : Shared) v (Q' : Unit → Shared → Prop), items[i]? = some v → s'.heap.IsListIter I Lh (i + 1) → Q' () s' → wpAny (model prog w) A (letOwnedTupleGo target (.ref I) v) Q' E s')
    (step : ∀ i v u news₁ h tk I oI, items[i]? = some v → P i u news₁ → (∀ p ∈ news₁, p.1 ≠ I) → I ≠ Lh → Fr h₀ env.locals h (over names u m) → News h₀ env.locals h ((I, oI) :: (Lh, o) :: news₁) →
      wpAny (model prog w) A (assign target env v) (fun _ s₂ => wpAny (model prog w) A (execs body env) (TurnEnd h₀ env.locals [I] [(I, oI), (Lh, o)] (fun m' news' => (∀ z, z ∉ names → m' z = m z) ∧ P (i + 1) m' news') Q { s with heap := h, toks := tk }) E s₂) E { s with heap := h, toks := tk })
    (done : ∀ h tk u news₁, P items.length u news₁ → Fr h₀ env.locals h (over names u m) → News h₀ env.locals h news₁ → Q .next { s with heap := h, toks := tk }) :
    wpAny (model prog w) A (pyIter (.ref Lh)) (fun it s₂ => Turns prog w A h₀ env target body Q E it s₂) E s := by
  refine turns_list (fun i m₁ news₁ => (∀ z, z ∉ names → m₁ z = m z) ∧ P i m₁ news₁) hh F N hm hc hd ⟨fun _ _ => rfl, h0⟩ hgo ?_ ?_
  · rintro i v m₁ news₁ h tk I oI hv ⟨he, hP⟩ hn hI F₁ N₁
    exact step i v m₁ news₁ h tk I oI hv hP hn hI (over_of he ▸ F₁) N₁
  · rintro h tk m₁ news₁ ⟨he, hP⟩ F₁ N₁
    exact done h tk m₁ news₁ hP (over_of he ▸ F₁) N₁

theorem assign_pair {E : Value → Shared → Prop} {x₁ x₂ : Str} {p₁ p₂ pos : Pos} {k : Nat} {a : Addr} {v₁ v₂ : Value} {n : Nat} {m : Str → Option Value} {news : List (Addr × Obj)} {Q : Unit → Shared → Prop} (hh : A.handled = none) (hk : env.scope.kind = .function)
    (F : Fr h₀ env.locals s.heap m) (N : News h₀ env.locals s.heap news) (hm : (a, ({ cls := .type "tuple", data := .seq #[v₁, v₂] n } : Obj)) ∈ news)
    (h : ∀ h', Fr h₀ env.locals h' (fun y => if y = x₂ then some v₂ else if y = x₁ then some v₁ else m y) → News h₀ env.locals h' news → Q () { s with heap := h', toks := s.toks + 1 + 1 })
    (hx₁ : env.kindOf x₁ = some .local) (hx₂ : env.kindOf x₂ = some .local) : wpAny (model prog w) A (assign (.Tuple [.Name x₁ p₁, .Name x₂ p₂] k pos) env (.ref a)) Q E s := by
  have hp : (env.scope.kind == .class || (env.scope.kind == .module && env.locals != env.globals)) = false := by rw [hk]; rfl
  refine assign_Tuple_tuple hh ⟨_, (N _ hm).1, rfl, n, rfl⟩ rfl rfl fun h₅ he => ?_
  have he' : ∀ b o, s.heap.get? b = some o → h₅.get? b = some o := fun b o e => he b o (Nat.ne_of_lt (Heap.lt_size e)) e
  have F₅ := F.keeps he'
  have N₅ := N.grown he'
  refine assignInOrder_cons (wpAny_assign_Name (wpAny_storeName_local hx₁ F₅.ns (fun h₆ hn₆ hs₆ => ?_) hp))
  refine assignInOrder_cons (wpAny_assign_Name (wpAny_storeName_local hx₂ hn₆ (fun h₇ hn₇ hs₇ => ?_) hp))
  exact assignInOrder_nil (h h₇ ((F₅.set hn₆ hs₆).set hn₇ hs₇) ((N₅.set hs₆).set hs₇))
end
end Mine
end

section
open PySem PySem.W PyProof.Rows PySem.Calls PySem.Spec
set_option Elab.async false
set_option maxRecDepth 100000
namespace Mine
section
variable {prog : Program} {w : World} {A : Around} {s : Shared} {h₀ : Heap} {L : Addr} {m : Str → Option Value} {env : Env}

theorem CompEnd_mono {s₁ s₂ : Shared} {I C D : Addr} {oI oC oD : Obj} {S : List (Addr × Obj) → Prop} {r r' : Value → List (Addr × Obj) → Prop} {y : Value} (h : LCg.CompEnd h₀ L m s₁ I oI C oC D oD S r y s₂) (hr : ∀ y n, r y n → r' y n) : LCg.CompEnd h₀ L m s₁ I oI C oC D oD S r' y s₂ := by
  obtain ⟨h', tk, news', e, F, N, o, hS, hr'⟩ := h
  exact ⟨h', tk, news', e, F, N, o, hS, hr _ _ hr'⟩

/-- a list comprehension with one test, by what holds of the items taken so far; its turns change nothing that lasts -/
theorem restT_by {ct elt : Expr} {x : Str} {scope : Scope} {cl : List (Str × Addr)} {S : List (Addr × Obj) → Prop} {P : Nat → Value → Prop} {Fin : List Value → List (Addr × Obj) → Prop} {news : List (Addr × Obj)} {vs : List Value} (R : Nat → List Value → Prop)
    (hP : ∀ i v, P i v → vs[i]? = some v)
    (step : ∀ i v ys I oI C oC D m₂ h tk (E' : Value → Shared → Prop), vs[i]? = some v → R i ys → LCg.NsObj oC m₂ → m₂ x = some v → Fr h₀ L h m → News h₀ L h ((I, oI) :: (C, oC) :: (D, LCg.lst ys) :: news) → LCg.Off3 I C D news → ((@Ne Nat I C) ∧ (@Ne Nat I D) ∧ (@Ne Nat C D)) →
      wpAny (model prog w) A (isTrue ct (compEnvC scope cl C env) (eval ct (compEnvC scope cl C env))) (fun ok s' => if ok = true then
        wpAny (model prog w) A (eval elt (compEnvC scope cl C env)) (LCg.CompEnd h₀ L m { s with heap := h, toks := tk } I oI C oC D (LCg.lst ys) S (fun y news' => news' = news ∧ R (i + 1) (ys ++ [y]))) E' s'
        else LCg.CompEnd h₀ L m { s with heap := h, toks := tk } I oI C oC D (LCg.lst ys) S (fun _ news' => news' = news ∧ R (i + 1) ys) Value.none s') E' { s with heap := h, toks := tk })
    (fin : ∀ ys, R vs.length ys → Fin ys news) : ∀ k i ys, i + k = vs.length → R i ys → LCt.CompRestT prog w A h₀ L m env ct elt x scope cl s S P Fin k i ys news := by
  intro k
  induction k with
  | zero =>
    intro i ys hi hR
    exact LCt.CompRestT.zero (fin ys (by rw [← hi]; exact hR))
  | succ k ih =>
    intro i ys hi hR
    refine LCt.CompRestT.succ fun v I oI C oC D m₂ h tk E' hv hC hx F N off ne => ?_
    refine wpAny_mono (step i v ys I oI C oC D m₂ h tk E' (hP i v hv) hR hC hx F N off ne) (fun ok s' h' => ?_) fun _ _ e => e
    cases ok with
    | true =>
      simp only [if_true] at h' ⊢
      refine wpAny_mono h' (fun y s₂ hy => CompEnd_mono hy fun y n hn => ?_) fun _ _ e => e
      rw [hn.1]
      exact ih (i + 1) _ (by omega) hn.2
    | false =>
      simp only [Bool.false_eq_true, if_false] at h' ⊢
      refine CompEnd_mono h' fun y n hn => ?_
      rw [hn.1]
      exact ih (i + 1) _ (by omega) hn.2

/-- a plain list comprehension -/
theorem restU_by {elt : Expr} {x : Str} {scope : Scope} {cl : List (Str × Addr)} {S : List (Addr × Obj) → Prop} {P : Nat → Value → Prop} {Fin : List Value → List (Addr × Obj) → Prop} {news : List (Addr × Obj)} {vs : List Value} (R : Nat → List Value → Prop)
    (hP : ∀ i v, P i v → vs[i]? = some v)
    (step : ∀ i v ys I oI C oC D m₂ h tk (E' : Value → Shared → Prop), vs[i]? = some v → R i ys → LCg.NsObj oC m₂ → m₂ x = some v → Fr h₀ L h m → News h₀ L h ((I, oI) :: (C, oC) :: (D, LCg.lst ys) :: news) → LCg.Off3 I C D news → ((@Ne Nat I C) ∧ (@Ne Nat I D) ∧ (@Ne Nat C D)) →
      wpAny (model prog w) A (eval elt (compEnvC scope cl C env)) (LCg.CompEnd h₀ L m { s with heap := h, toks := tk } I oI C oC D (LCg.lst ys) S (fun y news' => news' = news ∧ R (i + 1) (ys ++ [y]))) E' { s with heap := h, toks := tk })
    (fin : ∀ ys, R vs.length ys → Fin ys news) : ∀ k i ys, i + k = vs.length → R i ys → LCg.CompRest prog w A h₀ L m env elt x scope cl s S P Fin k i ys news := by
  intro k
  induction k with
  | zero =>
    intro i ys hi hR
    exact LCg.CompRest.zero (fin ys (by rw [← hi]; exact hR))
  | succ k ih =>
    intro i ys hi hR
    refine LCg.CompRest.succ fun v I oI C oC D m₂ h tk E' hv hC hx F N off ne => ?_
    refine wpAny_mono (step i v ys I oI C oC D m₂ h tk E' (hP i v hv) hR hC hx F N off ne) (fun y s₂ hy => CompEnd_mono hy fun y n hn => ?_) fun _ _ e => e
    rw [hn.1]
    exact ih (i + 1) _ (by omega) hn.2

/-- over pairs -/
theorem restP_by {elt : Expr} {x x₂ : Str} {scope : Scope} {cl : List (Str × Addr)} {S : List (Addr × Obj) → Prop} {P : Nat → Value → Prop} {Fin : List Value → List (Addr × Obj) → Prop} {news : List (Addr × Obj)} {vs : List Value} (R : Nat → List Value → Prop)
    (hP : ∀ i v, P i v → vs[i]? = some v)
    (pair : ∀ i v, vs[i]? = some v → ∃ (t : Addr) (ot : Obj) (v₁ v₂ : Value) (nt : Nat), v = .ref t ∧ (t, ot) ∈ news ∧ ot.cls = .type "tuple" ∧ ot.data = .seq #[v₁, v₂] nt ∧
      ∀ ys I oI C oC D m₂ h tk (E' : Value → Shared → Prop), R i ys → LCg.NsObj oC m₂ → m₂ x = some v₁ → m₂ x₂ = some v₂ → Fr h₀ L h m → News h₀ L h ((I, oI) :: (C, oC) :: (D, LCg.lst ys) :: news) → LCg.Off3 I C D news → ((@Ne Nat I C) ∧ (@Ne Nat I D) ∧ (@Ne Nat C D)) →
        wpAny (model prog w) A (eval elt (compEnvC scope cl C env)) (LCg.CompEnd h₀ L m { s with heap := h, toks := tk } I oI C oC D (LCg.lst ys) S (fun y news' => news' = news ∧ R (i + 1) (ys ++ [y]))) E' { s with heap := h, toks := tk })
    (fin : ∀ ys, R vs.length ys → Fin ys news) : ∀ k i ys, i + k = vs.length → R i ys → LCp.CompRestP prog w A h₀ L m env elt x x₂ scope cl s S P Fin k i ys news := by
  intro k
  induction k with
  | zero =>
    intro i ys hi hR
    exact LCp.CompRestP.zero (fin ys (by rw [← hi]; exact hR))
  | succ k ih =>
    intro i ys hi hR
    refine LCp.CompRestP.succ fun v hv => ?_
    obtain ⟨t, ot, v₁, v₂, nt, e1, e2, e3, e4, step⟩ := pair i v (hP i v hv)
    refine ⟨t, ot, v₁, v₂, nt, e1, e2, e3, e4, fun I oI C oC D m₂ h tk E' hC hx hx₂ F N off ne => ?_⟩
    refine wpAny_mono (step ys I oI C oC D m₂ h tk E' hR hC hx hx₂ F N off ne) (fun y s₂ hy => CompEnd_mono hy fun y n hn => ?_) fun _ _ e => e
    rw [hn.1]
    exact ih (i + 1) _ (by omega) hn.2
end
end Mine
namespace Mine
section
variable {prog : Program} {w : World} {A : Around} {E : Value → Shared → Prop} {s : Shared} {h₀ : Heap} {L : Addr} {m : Str → Option Value}

theorem mapSeq_list {items new : Array Value} {n : Nat} {f : Array Value → Array Value} (h : f items = new) : Obj.mapSeq f (listOf items n) = listOf new (if new.size == items.size then n else n + 1) := by
  subst h; rfl
theorem setItem_whole {l sl v : Addr} {ov : Obj} {items new : Array Value} {n nn : Nat} {Q : Unit → Shared → Prop} (ho : s.heap.get? l = some (listOf items n))
    (hs : s.heap.IsSliceOf sl .none .none .none) (hv : s.heap.get? v = some ov) (hvc : ov.cls = .type "list") (hvd : ov.data = .seq new nn) (hne : l ≠ v) (hsz : items.size + new.size ≤ sizeLine)
    (hQ : ∀ h', h'.get? l = some (listOf new (if new.size == items.size then n else n + 1)) → Heap.SameBut l s.heap h' → Q () { s with heap := h' }) :
    wpAny (model prog w) A (setItem (.ref l) (.ref sl) (.ref v)) Q E s := by
  have hl : s.heap.IsList l items := ⟨_, ho, rfl, n, rfl⟩
  obtain ⟨os, hos, hcs, hds⟩ := id hs
  have hTs : s.TypeIs (.ref sl) "slice" := ⟨os, hos, hcs⟩
  have hTv : s.TypeIs (.ref v) "list" := ⟨ov, hv, hvc⟩
  unfold setItem
  refine wpAny_holding ?_
  refine wpAny_bind (wpAny_sequenceKey hl.typeIs (by decide) ?_)
  refine wpAny_bind (wpAny_callSpecial?_slot (name := Str.ofString "__setitem__") hl.typeIs slot_list_setitem
    (wpAny_call_entry slot_list_setitem hl.typeIs entry_list_setitem ?_ (args_list_setitem _ _ _)))
  show wpAny _ _ (Builtin.List.listSubscript? (.ref sl) >>= _) _ _ s
  refine wpAny_bind ?_
  unfold Builtin.List.listSubscript?
  refine wpAny_bind (wpAny_specialOf hTs slice_no_index ?_)
  simp only [Option.isNone_none, if_true]
  refine wpAny_pure ?_
  show wpAny _ _ (typeOf (.ref sl) >>= _) _ _ s
  refine wpAny_bind (wpAny_typeOf hTs ?_)
  rw [if_neg (by decide)]
  rw [listSliceParts_eq]
  refine wpAny_bind (wpAny_bind (wpAny_field hos hds (x := .none) rfl (wpAny_bind (wpAny_listPart .none ?_))))
  rw [if_neg (by exact Bool.false_ne_true)]
  refine wpAny_bind (wpAny_field hos hds (x := .none) rfl (wpAny_bind (wpAny_listPart .none ?_)))
  refine wpAny_bind (wpAny_field hos hds (x := .none) rfl (wpAny_bind (wpAny_listPart .none (wpAny_pure ?_))))
  dsimp only
  rw [if_neg (by simpa [Builtin.List.listSameRef] using hne)]
  unfold Builtin.List.listAllItems
  refine wpAny_bind (wpAny_bind (wpAny_typeOf hTv ?_))
  rw [if_pos (by decide)]
  refine listItems_at hv hvd ?_
  refine wpAny_bind (listItems_at ho rfl ?_)
  refine wpAny_bind (wpAny_of_eq (sliceIndices_raw none none none items.size (by simp)) ?_)
  have hb : sliceBounds none none none items.size = (0, (items.size : Int), 1) := rfl
  rw [hb]
  dsimp only
  rw [if_pos (by decide)]
  refine wpAny_bind (wpAny_rule ?_)
  rw [if_neg (by simp only [Builtin.List.listTooLong, decide_eq_true_eq]; omega)]
  have hmax : (max (0 : Int) (items.size : Int)).toNat = items.size := by omega
  have hf : (items.extract 0 (Int.toNat 0) ++ new ++ items.extract (max (0 : Int) (items.size : Int)).toNat) = new := by
    rw [hmax]; simp
  refine wpAny_bind (listUpdate_at ho rfl ?_ (by omega) (by rw [hf]; omega))
  refine wpAny_bind (wpAny_letGo ?_)
  refine wpAny_pure ⟨_, rfl, ?_⟩
  refine wpAny_pure ?_
  refine hQ _ ?_ (Heap.SameBut.update ..)
  rw [Heap.get?_update_self _ ho rfl]
  exact congrArg some (mapSeq_list hf)

theorem setItem_slice_N {h9 : Heap} {Lh D : Addr} {items new : Array Value} {n nn : Nat} {news : List (Addr × Obj)} {gg : Obj → List (Addr × Obj)} {Q : Unit → Shared → Prop} (hs : s.heap = h9.push { cls := .type "slice", data := .fields #[.none, .none, .none] })
    (F : Fr h₀ L h9 m) (N : News h₀ L h9 news) (U : UpdF Lh (listOf items n) news gg) (hv : (D, listOf new nn) ∈ news) (hne : Lh ≠ D) (hsz : items.size + new.size ≤ sizeLine)
    (hQ : ∀ h' k', Fr h₀ L h' m → News h₀ L h' (gg (listOf new k')) → Q () { s with heap := h' }) : wpAny (model prog w) A (setItem (.ref Lh) (.ref h9.objs.size) (.ref D)) Q E s := by
  obtain ⟨hp, gn, dr, tk, os⟩ := s
  dsimp only at hs hQ
  subst hs
  obtain ⟨own, rest, rfl, hg, h1, h2⟩ := U.split
  have hL := N (Lh, listOf items n) (by simp)
  have hD := N (D, listOf new nn) hv
  have up : ∀ b o, h9.get? b = some o → (h9.push { cls := .type "slice", data := .fields #[.none, .none, .none] }).get? b = some o := fun b o e => Heap.get?_push_of_some _ e
  refine setItem_whole (up _ _ hL.1) (Heap.IsSliceOf.new ..) (up _ _ hD.1) rfl rfl hne hsz fun h' ho hs => ?_
  refine hQ h' (if new.size == items.size then n else n + 1) ((F.keeps up).change hs hL.2.1 hL.2.2) ?_
  rw [hg]
  exact news_set (N.grown up) h1 h2 hs ho
end
end Mine
end

section
open PySem PySem.W PyProof.Rows PySem.Calls PySem.Spec
set_option Elab.async false
set_option maxRecDepth 100000
namespace Mine
section
variable {prog : Program} {w : World} {A : Around} {s : Shared} {env : Env} {h₀ : Heap}

/-- over an iterator that is one new object, its items bound to one name -/
theorem turns_oneN {E : Value → Shared → Prop} {Q : Flow → Shared → Prop} {x : Str} {px : Pos} {body : List Stmt} {n : Nat} {P : Nat → Value → Prop} {St : Nat → Heap → Prop} {oI : Obj} {m : Str → Option Value} {news : List (Addr × Obj)} (names : List Str) (J : Nat → (Str → Option Value) → List (Addr × Obj) → Prop)
    (W : Walks prog w A s.heap.objs.size [s.heap.objs.size] [s.heap.objs.size] n P St) (hst : St 0 (s.heap.push oI)) (hso : ∀ i h, St i h → ∃ o, h.get? s.heap.objs.size = some o)
    (F : Fr h₀ env.locals s.heap m) (N : News h₀ env.locals s.heap news) (h0 : J 0 m news)
    (hk : env.scope.kind = .function) (hx : env.kindOf x = some .local) (hxn : x ∈ names)
    (step : ∀ i v u news₁ h tk I oI, i < n → P i v → J i u news₁ → (∀ p ∈ news₁, p.1 ≠ I) → (∀ p ∈ news, p.1 ≠ I) → Fr h₀ env.locals h (fun y => if y = x then some v else over names u m y) → News h₀ env.locals h ((I, oI) :: news₁) →
      wpAny (model prog w) A (execs body env) (TurnEnd h₀ env.locals [I] [(I, oI)] (fun m' news' => (∀ z, z ∉ names → m' z = m z) ∧ J (i + 1) m' news') Q { s with heap := h, toks := tk }) E { s with heap := h, toks := tk })
    (done : ∀ h tk u news₁, J n u news₁ → Fr h₀ env.locals h (over names u m) → News h₀ env.locals h news₁ → Q .next { s with heap := h, toks := tk }) :
    Turns prog w A h₀ env (.Name x px) body Q E (.ref s.heap.objs.size) { s with heap := s.heap.push oI } := by
  have hp : (env.scope.kind == .class || (env.scope.kind == .module && env.locals != env.globals)) = false := by rw [hk]; rfl
  have hI0 : h₀.get? s.heap.objs.size = none := next_is_new F
  have hIn : ∀ p ∈ news, p.1 ≠ s.heap.objs.size := fun p hp => Nat.ne_of_lt (Heap.lt_size (N p hp).1)
  refine ⟨s.heap.objs.size, _, _, n, P, St, m, news, fun i m₁ news₁ => (∀ z, z ∉ names → m₁ z = m z) ∧ J i m₁ news₁, rfl, W, ?_, ?_, ?_, hst, F.push _, (fun p hp => ⟨Heap.get?_push_of_some _ (N p hp).1, (N p hp).2⟩), ⟨fun _ _ => rfl, h0⟩, ?_, ?_, ?_⟩
  · intro hq
    exact absurd F.ns.lt ((List.mem_singleton.mp hq) ▸ Nat.lt_irrefl _)
  · intro b hb
    rw [List.mem_singleton.mp hb]; exact hI0
  · intro p hp hI
    exact hIn p hp (List.mem_singleton.mp hI)
  · intro i s' v Q' _ _ hQ'
    exact wpAny_pure hQ'
  · rintro i v m₁ news₁ h tk own hi hP ⟨he, hJ⟩ hn hof hcov st F₁ N₁ O₁
    obtain ⟨o, ho⟩ := hso _ _ st
    have mI := hcov s.heap.objs.size (by simp) hI0 o ho
    have sub : ∀ p ∈ own, p ∈ [(s.heap.objs.size, o)] := fun p hp => by
      have e := (O₁ p hp).1
      have h1 := List.mem_singleton.mp (hof p hp)
      rw [h1, ho] at e
      have : p = (s.heap.objs.size, o) := Prod.ext h1 (Option.some.inj e).symm
      rw [this]; exact List.mem_cons_self
    have hn' : ∀ p ∈ news₁, p.1 ≠ s.heap.objs.size := fun p hp q => hn p hp (by rw [q]; exact List.mem_singleton.mpr rfl)
    refine wpAny_assign_Name (wpAny_storeName_local hx F₁.ns (fun h₂ hn₂ hs₂ => ?_) hp)
    have F₂ := F₁.set hn₂ hs₂
    have N₂ : News h₀ env.locals h₂ ((s.heap.objs.size, o) :: news₁) := News.set (fun p hp => by
      rcases List.mem_cons.mp hp with rfl | hp
      · exact O₁ _ mI
      · exact N₁ p hp) hs₂
    rw [over_of he] at F₂
    refine wpAny_mono (step i v m₁ news₁ h₂ _ _ o hi hP hJ hn' hIn F₂ N₂) (fun f s₃ h₃ => ?_) fun _ _ e => e
    have h₄ := h₃.mono sub fun _ _ j => j
    cases f with
    | next =>
      obtain ⟨h', tk', m', news', e, r⟩ := h₄
      exact ⟨h', tk', m', news', e, r⟩
    | cont =>
      obtain ⟨h', tk', m', news', e, r⟩ := h₄
      exact ⟨h', tk', m', news', e, r⟩
    | brk => exact h₄
    | ret v => exact h₄
  · rintro h tk m₁ news₁ ⟨he, hJ⟩ _ F₁ N₁
    exact done h tk m₁ news₁ hJ (over_of he ▸ F₁) N₁

/-- over the signs of a text -/
theorem turns_strN {E : Value → Shared → Prop} {Q : Flow → Shared → Prop} {x : Str} {px : Pos} {body : List Stmt} {tx : Str} {t : Tok} {m : Str → Option Value} {news : List (Addr × Obj)} (names : List Str) (J : Nat → (Str → Option Value) → List (Addr × Obj) → Prop)
    (hh : A.handled = none) (F : Fr h₀ env.locals s.heap m) (N : News h₀ env.locals s.heap news) (h0 : J 0 m news)
    (hk : env.scope.kind = .function) (hx : env.kindOf x = some .local) (hxn : x ∈ names)
    (step : ∀ i c u news₁ h tk tc I oI, tx.cps[i]? = some c → J i u news₁ → (∀ p ∈ news₁, p.1 ≠ I) → (∀ p ∈ news, p.1 ≠ I) → Fr h₀ env.locals h (fun y => if y = x then some (.str ⟨#[c]⟩ tc) else over names u m y) → News h₀ env.locals h ((I, oI) :: news₁) →
      wpAny (model prog w) A (execs body env) (TurnEnd h₀ env.locals [I] [(I, oI)] (fun m' news' => (∀ z, z ∉ names → m' z = m z) ∧ J (i + 1) m' news') Q { s with heap := h, toks := tk }) E { s with heap := h, toks := tk })
    (done : ∀ h tk u news₁, J tx.cps.size u news₁ → Fr h₀ env.locals h (over names u m) → News h₀ env.locals h news₁ → Q .next { s with heap := h, toks := tk }) :
    wpAny (model prog w) A (pyIter (.str tx t)) (fun it s₂ => Turns prog w A h₀ env (.Name x px) body Q E it s₂) E s := by
  have st : ∀ (St : Nat → Heap → Prop), (∃ cls, St = fun i h => h.IsStrIter s.heap.objs.size cls tx t i) → ∀ i h, St i h → ∃ o, h.get? s.heap.objs.size = some o := by
    rintro _ ⟨cls, rfl⟩ i h ⟨o, ho, _⟩
    exact ⟨o, ho⟩
  have stp : ∀ i v u news₁ h tk I oI, i < tx.cps.size → SignAt tx i v → J i u news₁ → (∀ p ∈ news₁, p.1 ≠ I) → (∀ p ∈ news, p.1 ≠ I) → Fr h₀ env.locals h (fun y => if y = x then some v else over names u m y) → News h₀ env.locals h ((I, oI) :: news₁) →
      wpAny (model prog w) A (execs body env) (TurnEnd h₀ env.locals [I] [(I, oI)] (fun m' news' => (∀ z, z ∉ names → m' z = m z) ∧ J (i + 1) m' news') Q { s with heap := h, toks := tk }) E { s with heap := h, toks := tk } := by
    rintro i v u news₁ h tk I oI _ ⟨c, tc, hc, rfl⟩ hJ a b F₁ N₁
    exact step i c u news₁ h tk tc I oI hc hJ a b F₁ N₁
  cases ha : tx.cps.all (· < 128)
  · refine wpAny_pyIter_wide ha ?_
    exact turns_oneN names J (Walks.strWide hh _ tx t) ⟨_, Heap.get?_push_size _ rfl, rfl, rfl⟩ (st _ ⟨_, rfl⟩) F N h0 hk hx hxn stp done
  · refine wpAny_pyIter_ascii ha ?_
    exact turns_oneN names J (Walks.strAscii hh _ tx t) ⟨_, Heap.get?_push_size _ rfl, rfl, rfl⟩ (st _ ⟨_, rfl⟩) F N h0 hk hx hxn stp done

/-- over a range from a to a + n by ones -/
theorem turns_rangeN {E : Value → Shared → Prop} {Q : Flow → Shared → Prop} {x : Str} {px : Pos} {body : List Stmt} {r : Addr} {a₀ b₀ : Int} {t₀ u₀ v₀ : Tok} {n : Nat} {m : Str → Option Value} {news : List (Addr × Obj)} (names : List Str) (J : Nat → (Str → Option Value) → List (Addr × Obj) → Prop)
    (hh : A.handled = none) (hr : IsRange s.heap r a₀ b₀ 1 t₀ u₀ v₀) (hsmall : Builtin.Range.small a₀ b₀ 1 = true) (hn : Builtin.Range.rangeSize a₀ b₀ 1 = (n : Int)) (F : Fr h₀ env.locals s.heap m) (N : News h₀ env.locals s.heap news) (h0 : J 0 m news)
    (hk : env.scope.kind = .function) (hx : env.kindOf x = some .local) (hxn : x ∈ names)
    (step : ∀ i u news₁ h tk tc I oI, i < n → J i u news₁ → (∀ p ∈ news₁, p.1 ≠ I) → (∀ p ∈ news, p.1 ≠ I) → Fr h₀ env.locals h (fun y => if y = x then some (.int (a₀ + (i : Int)) tc) else over names u m y) → News h₀ env.locals h ((I, oI) :: news₁) →
      wpAny (model prog w) A (execs body env) (TurnEnd h₀ env.locals [I] [(I, oI)] (fun m' news' => (∀ z, z ∉ names → m' z = m z) ∧ J (i + 1) m' news') Q { s with heap := h, toks := tk }) E { s with heap := h, toks := tk })
    (done : ∀ h tk u news₁, J n u news₁ → Fr h₀ env.locals h (over names u m) → News h₀ env.locals h news₁ → Q .next { s with heap := h, toks := tk }) :
    wpAny (model prog w) A (pyIter (.ref r)) (fun it s₂ => Turns prog w A h₀ env (.Name x px) body Q E it s₂) E s := by
  refine wpAny_pyIter_range hr hsmall ?_
  refine turns_oneN (P := fun i v => ∃ t, v = .int (a₀ + (i : Int)) t) (St := fun i h => IsRangeIter h s.heap.objs.size (a₀ + (i : Nat) * 1) ((n : Int) - (i : Nat)) 1) names J (LCg.range_walks hh a₀ n) (by show IsRangeIter _ _ _ _ _; rw [hn]; simpa using Heap.get?_push_size _ rfl) (fun i h st => ⟨_, st⟩) F N h0 hk hx hxn ?_ done
  rintro i v u news₁ h tk I oI hi ⟨tc, rfl⟩ hJ a b F₁ N₁
  exact step i u news₁ h tk tc I oI hi hJ a b F₁ N₁
end
end Mine
end

section
open PySem PySem.W PyProof.Rows PySem.Calls PySem.Spec
set_option Elab.async false
set_option maxRecDepth 100000
namespace Mine
section
variable {prog : Program} {w : World} {A : Around} {E : Value → Shared → Prop} {s : Shared} {h₀ : Heap} {L : Addr} {m : Str → Option Value} {env : Env}

/-- a plain list comprehension over what an iterator hands out -/
theorem restV_by {elt : Expr} {x : Str} {scope : Scope} {cl : List (Str × Addr)} {S : List (Addr × Obj) → Prop} {P : Nat → Value → Prop} {Fin : List Value → List (Addr × Obj) → Prop} {news : List (Addr × Obj)} {n : Nat} (R : Nat → List Value → Prop)
    (step : ∀ i v ys I oI C oC D m₂ h tk (E' : Value → Shared → Prop), i < n → P i v → R i ys → LCg.NsObj oC m₂ → m₂ x = some v → Fr h₀ L h m → News h₀ L h ((I, oI) :: (C, oC) :: (D, LCg.lst ys) :: news) → LCg.Off3 I C D news → ((@Ne Nat I C) ∧ (@Ne Nat I D) ∧ (@Ne Nat C D)) →
      wpAny (model prog w) A (eval elt (compEnvC scope cl C env)) (LCg.CompEnd h₀ L m { s with heap := h, toks := tk } I oI C oC D (LCg.lst ys) S (fun y news' => news' = news ∧ R (i + 1) (ys ++ [y]))) E' { s with heap := h, toks := tk })
    (fin : ∀ ys, R n ys → Fin ys news) : ∀ k i ys, i + k = n → R i ys → LCg.CompRest prog w A h₀ L m env elt x scope cl s S P Fin k i ys news := by
  intro k
  induction k with
  | zero =>
    intro i ys hi hR
    exact LCg.CompRest.zero (fin ys (by rw [← hi]; exact hR))
  | succ k ih =>
    intro i ys hi hR
    refine LCg.CompRest.succ fun v I oI C oC D m₂ h tk E' hv hC hx F N off ne => ?_
    refine wpAny_mono (step i v ys I oI C oC D m₂ h tk E' (by omega) hv hR hC hx F N off ne) (fun y s₂ hy => CompEnd_mono hy fun y n hn => ?_) fun _ _ e => e
    rw [hn.1]
    exact ih (i + 1) _ (by omega) hn.2

def SrcS (prog : Program) (w : World) (A : Around) (h₀ : Heap) (L : Addr) (m : Str → Option Value) (env : Env) (elt : Expr) (x : Str) (scope : Scope) (cl : List (Str × Addr)) (Q : Value → Shared → Prop) (xv : Value) (s₁ : Shared) : Prop :=
  ∃ tx t news, xv = .str tx t ∧ A.handled = none ∧ Fr h₀ L s₁.heap m ∧ News h₀ L s₁.heap news ∧ tx.cps.size ≤ sizeLine ∧
    ∀ s₂ : Shared, (∃ h, s₂ = { s₁ with heap := h }) → LCg.CompRest prog w A h₀ L m env elt x scope cl s₂ (fun _ => True) (SignAt tx) (LCg.FinE h₀ L m s₂ Q) tx.cps.size 0 [] news

theorem ListComp_str {elt iter : Expr} {x : Str} {px : Pos} {scope : Scope} {cl : List (Str × Addr)} {pos : Pos} {Q : Value → Shared → Prop} (F₀ : Fr h₀ L s.heap m)
    (hclos : closureFor scope env = pure cl) (hcell : ∀ y ∈ scope.names, y.2 ≠ .cell) (hkind : scope.kind = .function)
    (hnames : ∀ y ∈ scope.names, y.2 = .local → scope.names.lookup y.1 = some .local) (hx : scope.names.lookup x = some .local)
    (h : wpAny (model prog w) A (eval iter env) (SrcS prog w A h₀ L m env elt x scope cl Q) E s)
    (hs : ∀ x, foldedSetIterable iter env x = pure x := by intro _; rfl) :
    wpAny (model prog w) A (eval (.ListComp elt [⟨.Name x px, iter, [], 0⟩] scope pos) env) Q E s := by
  rw [eval_ListComp]
  refine wpAny_comprehension_free (use := none) rfl hs hclos hkind hnames (wpAny_mono h (fun xv s₁ h₁ => ?_) fun _ _ e => e)
  obtain ⟨tx, t, news, rfl, hh, F, N, hsz, R⟩ := h₁
  have go : ∀ (St : Nat → Heap → Prop) (o : Obj) (cls : String), St = (fun i h => h.IsStrIter s₁.heap.objs.size cls tx t i) → Walks prog w A s₁.heap.objs.size [s₁.heap.objs.size] [s₁.heap.objs.size] tx.cps.size (SignAt tx) St → St 0 (s₁.heap.push o) →
      wpAny (model prog w) A (newList []) (fun acc s₃ => wpAny (model prog w) A (newFunctionEnv scope env.globals cl [] env.qual none .none (some env)) (fun cenv s₄ =>
        codeAny (model prog w) A (.compStart (.ListComp elt [⟨.Name x px, iter, [], 0⟩] scope pos) 0 (.ref s₁.heap.objs.size) acc { cenv with scope := relabel scope env })
          (compPost (model prog w) A E none Q acc cenv.locals) s₄) E s₃) E { s₁ with heap := s₁.heap.push o } := by
    intro St o cls hSt W st0
    subst hSt
    refine LCg.block_U (RR := fun acc C => compPost (model prog w) A E none Q acc C) W hsz (fun i h st => by obtain ⟨o, e, _⟩ := st; exact ⟨o, e⟩) (fun i h h' o nw st e e' _ _ _ => by obtain ⟨o', q, r⟩ := st; rw [e] at q; cases q; exact ⟨o, e', r⟩) hcell hkind hx st0 (fun b hb => ?_)
      (F.keeps fun _ _ e => Heap.get?_push_of_some _ e) (N.grown fun _ _ e => Heap.get?_push_of_some _ e) (Nat.ne_of_lt F.ns.lt) (next_is_new F) (fun p hp => Nat.ne_of_lt (Heap.lt_size (N p hp).1)) trivial (R _ ⟨_, rfl⟩) ?_
    · rw [List.mem_singleton.mp hb]
      show s₁.heap.objs.size < (s₁.heap.push _).objs.size
      rw [Heap.size_push]; exact Nat.lt_succ_self _
    · intro D C h tk m' ys news' F' N' o1 hn hC₀ hD₀ hCL hDL hCD offC fin
      refine ⟨m', hn, fun h'' hs'' => fin D h'' tk (F'.change hs'' hCL hC₀) (fun p hp => ?_) o1⟩
      refine ⟨hs''.extBut _ _ ?_ (N' p hp).1, (N' p hp).2⟩
      rcases List.mem_cons.mp hp with rfl | hp
      · exact Ne.symm hCD
      · exact offC p hp
  cases ha : tx.cps.all (· < 128)
  · exact wpAny_pyIter_wide ha (go _ _ _ rfl (Walks.strWide hh _ tx t) ⟨_, Heap.get?_push_size _ rfl, rfl, rfl⟩)
  · exact wpAny_pyIter_ascii ha (go _ _ _ rfl (Walks.strAscii hh _ tx t) ⟨_, Heap.get?_push_size _ rfl, rfl, rfl⟩)

theorem for_turnsF {Q : Flow → Shared → Prop} {target iter : Expr} {pos : Pos} {body : List Stmt} (F9 : Fr h₀ env.locals s.heap m)
    (h : wpAny (model prog w) A (eval iter env) (fun xv s₁ => wpAny (model prog w) A (pyIter xv) (fun it s₂ => Turns prog w A h₀ env target body Q E it s₂) E s₁) E s)
    (hs : ∀ x, foldedSetIterable iter env x = pure x := by intro _; rfl)
    (hE : PassesOwn (model prog w) A env E := by passes_own) :
    wpAny (model prog w) A (exec (.For target iter body [] pos) env) Q E s := for_turns h₀ h hs hE
end
end Mine
end

section
open PySem PySem.W PyProof.Rows PySem.Calls PySem.Spec
set_option Elab.async false
set_option maxRecDepth 100000
namespace Mine
/-- what stands behind a loop, gathered in one word -/
def Behind (Q : Flow → Shared → Prop) (R : Shared → Prop) : Flow → Shared → Prop := fun f s' => match f with | .next => R s' | f => Q f s'
section
variable {prog : Program} {w : World} {A : Around} {s : Shared} {env : Env} {h₀ : Heap}

theorem TurnEnd.monoQ {L : Addr} {wr : List Addr} {own : List (Addr × Obj)} {J : (Str → Option Value) → List (Addr × Obj) → Prop} {Q Q' : Flow → Shared → Prop} {s₁ : Shared} {f : Flow} {s₂ : Shared}
    (h : TurnEnd h₀ L wr own J Q s₁ f s₂) (hQ : ∀ f s, Q f s → Q' f s) : TurnEnd h₀ L wr own J Q' s₁ f s₂ := by
  cases f with
  | next => exact h
  | cont => exact h
  | brk => exact hQ _ _ h
  | ret v => exact hQ _ _ h
theorem Turns.monoQ {E : Value → Shared → Prop} {Q Q' : Flow → Shared → Prop} {target : Expr} {body : List Stmt} {it : Value} (h : Turns prog w A h₀ env target body Q E it s) (hQ : ∀ f s, Q f s → Q' f s) : Turns prog w A h₀ env target body Q' E it s := by
  obtain ⟨I, fp, wr, n, P, St, m, news, J, e, W, a, b, c, d, F, N, h0, hgo, step, done⟩ := h
  exact ⟨I, fp, wr, n, P, St, m, news, J, e, W, a, b, c, d, F, N, h0, hgo, fun i v m₁ news₁ h tk own q1 q2 q3 q4 q5 q6 q7 q8 q9 q10 => wpAny_mono (step i v m₁ news₁ h tk own q1 q2 q3 q4 q5 q6 q7 q8 q9 q10) (fun _ s₂ h₂ => wpAny_mono h₂ (fun f s₃ h₃ => h₃.monoQ hQ) fun _ _ e => e) fun _ _ e => e,
    fun h tk m₁ news₁ q1 q2 q3 q4 => hQ _ _ (done h tk m₁ news₁ q1 q2 q3 q4)⟩
theorem Behind.to {Q : Flow → Shared → Prop} {R : Shared → Prop} (hR : ∀ s', R s' → Q .next s') : ∀ f s', Behind Q R f s' → Q f s' := by
  intro f s' h
  cases f with
  | next => exact hR s' h
  | cont => exact h
  | brk => exact h
  | ret v => exact h

theorem turns_rangeR {E : Value → Shared → Prop} {Q : Flow → Shared → Prop} {x : Str} {px : Pos} {body : List Stmt} {r : Addr} {a₀ b₀ : Int} {t₀ u₀ v₀ : Tok} {n : Nat} {m : Str → Option Value} {news : List (Addr × Obj)} (names : List Str) (J : Nat → (Str → Option Value) → List (Addr × Obj) → Prop) (R : Shared → Prop)
    (hh : A.handled = none) (hr : IsRange s.heap r a₀ b₀ 1 t₀ u₀ v₀) (hsmall : Builtin.Range.small a₀ b₀ 1 = true) (hn : Builtin.Range.rangeSize a₀ b₀ 1 = (n : Int)) (F : Fr h₀ env.locals s.heap m) (N : News h₀ env.locals s.heap news)
    (hR : ∀ s', R s' → Q .next s') (h0 : J 0 m news)
    (hk : env.scope.kind = .function) (hx : env.kindOf x = some .local) (hxn : x ∈ names)
    (step : ∀ i u news₁ h tk tc I oI, i < n → J i u news₁ → (∀ p ∈ news₁, p.1 ≠ I) → (∀ p ∈ news, p.1 ≠ I) → Fr h₀ env.locals h (fun y => if y = x then some (.int (a₀ + (i : Int)) tc) else over names u m y) → News h₀ env.locals h ((I, oI) :: news₁) →
      wpAny (model prog w) A (execs body env) (TurnEnd h₀ env.locals [I] [(I, oI)] (fun m' news' => (∀ z, z ∉ names → m' z = m z) ∧ J (i + 1) m' news') (Behind Q R) { s with heap := h, toks := tk }) E { s with heap := h, toks := tk })
    (done : ∀ h tk u news₁, J n u news₁ → Fr h₀ env.locals h (over names u m) → News h₀ env.locals h news₁ → R { s with heap := h, toks := tk }) :
    wpAny (model prog w) A (pyIter (.ref r)) (fun it s₂ => Turns prog w A h₀ env (.Name x px) body Q E it s₂) E s :=
  wpAny_mono (turns_rangeN (Q := Behind Q R) names J hh hr hsmall hn F N h0 hk hx hxn step done) (fun _ _ h => h.monoQ (Behind.to hR)) fun _ _ e => e

theorem name_at {m : Str → Option Value} {x : Str} {v : Value} (h : m x = some v) : m = fun z => if z = x then some v else m z := by
  funext z
  by_cases e : z = x
  · rw [if_pos e, e, h]
  · rw [if_neg e]
end
end Mine
end

section
open PySem PySem.W PyProof.Rows PySem.Calls PySem.Spec
set_option Elab.async false
set_option maxRecDepth 100000
namespace Mine
/-- the number of a way, its places as the figures 1, 2, 3 -/
def keyL (a : Nat) (l : List Nat) : Nat := l.foldl (fun a d => 3 * a + (d - 48) + 1) a
def DigL (l : List Nat) : Prop := ∀ d ∈ l, 48 ≤ d ∧ d < 51
theorem DigL.tail {d : Nat} {l : List Nat} (h : DigL (d :: l)) : DigL l := fun x hx => h x (List.mem_cons_of_mem _ hx)
theorem DigL.head {d : Nat} {l : List Nat} (h : DigL (d :: l)) : 48 ≤ d ∧ d < 51 := h d List.mem_cons_self
theorem keyL_cons (a d : Nat) (l : List Nat) : keyL a (d :: l) = keyL (3 * a + (d - 48) + 1) l := rfl
theorem keyL_snoc (a d : Nat) (l : List Nat) : keyL a (l ++ [d]) = 3 * keyL a l + (d - 48) + 1 := by
  unfold keyL; rw [List.foldl_append]; rfl
theorem key_acc : ∀ {x y : List Nat} {a b : Nat}, a < b → x.length = y.length → DigL x → DigL y → keyL a x < keyL b y
  | [], [], _, _, h, _, _, _ => h
  | [], _ :: _, _, _, _, e, _, _ => by cases e
  | _ :: _, [], _, _, _, e, _, _ => by cases e
  | d :: x, c :: y, a, b, h, e, hx, hy => by
    rw [keyL_cons, keyL_cons]
    have h1 := hx.head
    have h2 := hy.head
    exact key_acc (by omega) (by simpa using e) hx.tail hy.tail
theorem key_lex : ∀ {x y : List Nat} {a : Nat}, x.length = y.length → DigL x → DigL y → (x < y ↔ keyL a x < keyL a y)
  | [], [], a, _, _, _ => by
    constructor
    · intro h; exact absurd h (List.lt_irrefl _)
    · intro h; exact absurd h (Nat.lt_irrefl _)
  | [], _ :: _, _, e, _, _ => by cases e
  | _ :: _, [], _, e, _, _ => by cases e
  | d :: x, c :: y, a, e, hx, hy => by
    have h1 := hx.head
    have h2 := hy.head
    have e' : x.length = y.length := by simpa using e
    rw [keyL_cons, keyL_cons, List.cons_lt_cons_iff]
    rcases Nat.lt_trichotomy d c with h | h | h
    · have := key_acc (a := 3 * a + (d - 48) + 1) (b := 3 * a + (c - 48) + 1) (by omega) e' hx.tail hy.tail
      exact ⟨fun _ => this, fun _ => .inl h⟩
    · subst h
      rw [← key_lex e' hx.tail hy.tail]
      exact ⟨fun h => by rcases h with h | h; exact absurd h (Nat.lt_irrefl _); exact h.2, fun h => .inr ⟨rfl, h⟩⟩
    · have := key_acc (a := 3 * a + (c - 48) + 1) (b := 3 * a + (d - 48) + 1) (by omega) e'.symm hy.tail hx.tail
      refine ⟨fun h' => ?_, fun h' => absurd this (Nat.lt_asymm h')⟩
      rcases h' with h' | ⟨h', _⟩
      · exact absurd h (Nat.lt_asymm h')
      · omega
theorem key_range : ∀ {x : List Nat} {a : Nat}, DigL x → 3 ^ x.length * (2 * a + 1) ≤ 2 * keyL a x + 1 ∧ 2 * keyL a x + 3 ≤ 3 ^ x.length * (2 * a + 3)
  | [], a, _ => by simp [keyL]
  | d :: x, a, hx => by
    have h1 := hx.head
    have ih := key_range (x := x) (a := 3 * a + (d - 48) + 1) hx.tail
    rw [keyL_cons, List.length_cons, Nat.pow_succ]
    have p1 : 3 ^ x.length * 3 * (2 * a + 1) ≤ 3 ^ x.length * (2 * (3 * a + (d - 48) + 1) + 1) := by
      rw [Nat.mul_assoc]; exact Nat.mul_le_mul_left _ (by omega)
    have p2 : 3 ^ x.length * (2 * (3 * a + (d - 48) + 1) + 3) ≤ 3 ^ x.length * 3 * (2 * a + 3) := by
      rw [Nat.mul_assoc]; exact Nat.mul_le_mul_left _ (by omega)
    omega
theorem key_short {x y : List Nat} (h : x.length < y.length) (hx : DigL x) (hy : DigL y) : keyL 0 x < keyL 0 y := by
  have h1 := (key_range (a := 0) hx).2
  have h2 := (key_range (a := 0) hy).1
  have h3 : 3 ^ (x.length + 1) ≤ 3 ^ y.length := Nat.pow_le_pow_right (by decide) h
  rw [Nat.pow_succ] at h3
  omega
theorem key_inj {x y : List Nat} (hx : DigL x) (hy : DigL y) (h : keyL 0 x = keyL 0 y) : x = y := by
  rcases Nat.lt_trichotomy x.length y.length with e | e | e
  · have := key_short e hx hy; omega
  · rcases Classical.em (x < y) with l | l
    · have := (key_lex (a := 0) e hx hy).mp l; omega
    · rcases Classical.em (y < x) with l' | l'
      · have := (key_lex (a := 0) e.symm hy hx).mp l'; omega
      · exact List.le_antisymm (List.not_lt.mp l') (List.not_lt.mp l)
  · have := key_short e hy hx; omega

/-- two rows that rise by f and have the same members are one -/
theorem rise_eq {α : Type} {f : α → Nat} : ∀ {x y : List α}, x.Pairwise (fun a b => f a < f b) → y.Pairwise (fun a b => f a < f b) → (∀ z, z ∈ x ↔ z ∈ y) → x = y
  | [], [], _, _, _ => rfl
  | [], b :: y, _, _, h => absurd ((h b).mpr List.mem_cons_self) List.not_mem_nil
  | a :: x, [], _, _, h => absurd ((h a).mp List.mem_cons_self) List.not_mem_nil
  | a :: x, b :: y, hx, hy, h => by
    rw [List.pairwise_cons] at hx hy
    have e : a = b := by
      rcases List.mem_cons.mp ((h a).mp List.mem_cons_self) with e | m1
      · exact e
      · rcases List.mem_cons.mp ((h b).mpr List.mem_cons_self) with e | m2
        · exact e.symm
        · have h1 := hx.1 b m2
          have h2 := hy.1 a m1
          omega
    subst e
    rw [rise_eq hx.2 hy.2 fun z => ?_]
    constructor
    · intro hz
      rcases List.mem_cons.mp ((h z).mp (List.mem_cons_of_mem _ hz)) with e | m
      · have := hx.1 z hz; rw [e] at this; exact absurd this (Nat.lt_irrefl _)
      · exact m
    · intro hz
      rcases List.mem_cons.mp ((h z).mpr (List.mem_cons_of_mem _ hz)) with e | m
      · have := hy.1 z hz; rw [e] at this; exact absurd this (Nat.lt_irrefl _)
      · exact m
theorem nodup_le {α : Type} [DecidableEq α] : ∀ {x y : List α}, x.Nodup → (∀ z ∈ x, z ∈ y) → x.length ≤ y.length
  | [], _, _, _ => Nat.zero_le _
  | a :: x, y, hn, h => by
    rw [List.nodup_cons] at hn
    have ha := h a List.mem_cons_self
    have := nodup_le (x := x) (y := y.erase a) hn.2 fun z hz => by
      have hne : z ≠ a := fun e => hn.1 (e ▸ hz)
      exact (List.mem_erase_of_ne hne).mpr (h z (List.mem_cons_of_mem _ hz))
    rw [List.length_erase_of_mem ha] at this
    have := List.length_pos_of_mem ha
    simp only [List.length_cons]; omega
/-- a row without doubles among as many is all of them -/
theorem nodup_all {α : Type} [DecidableEq α] {x y : List α} (hx : x.Nodup) (h : ∀ z ∈ x, z ∈ y) (hl : y.length ≤ x.length) : ∀ z ∈ y, z ∈ x := by
  intro z hz
  rcases Classical.em (z ∈ x) with m | m
  · exact m
  · have : (z :: x).length ≤ y.length := nodup_le (List.nodup_cons.mpr ⟨m, hx⟩) fun v hv => by
      rcases List.mem_cons.mp hv with e | hv
      · rw [e]; exact hz
      · exact h v hv
    simp only [List.length_cons] at this; omega
/-- a turn that brings Q about, somewhere in a row -/
theorem fold_hit {σ α : Type} {f : σ → α → σ} {P Q : σ → Prop} {l : List α} {a : α} (ha : a ∈ l) (hP : ∀ s, ∀ b ∈ l, P s → P (f s b)) (hQ : ∀ s, ∀ b ∈ l, P s → Q s → Q (f s b)) (hit : ∀ s, P s → Q (f s a)) : ∀ s, P s → Q (l.foldl f s) := by
  have keep : ∀ (l' : List α), (∀ b ∈ l', b ∈ l) → ∀ s, P s → Q s → Q (l'.foldl f s) := by
    intro l'
    induction l' with
    | nil => intro _ s _ hq; exact hq
    | cons b l' ih => intro hs s hp hq; exact ih (fun c hc => hs c (List.mem_cons_of_mem _ hc)) _ (hP s b (hs b List.mem_cons_self) hp) (hQ s b (hs b List.mem_cons_self) hp hq)
  have main : ∀ (l' : List α), (∀ b ∈ l', b ∈ l) → a ∈ l' → ∀ s, P s → Q (l'.foldl f s) := by
    intro l'
    induction l' with
    | nil => intro _ h; exact absurd h List.not_mem_nil
    | cons b l' ih =>
      intro hs h s hp
      rcases List.mem_cons.mp h with e | h
      · rw [List.foldl_cons]
        refine keep l' (fun c hc => hs c (List.mem_cons_of_mem _ hc)) _ (hP s b (hs b List.mem_cons_self) hp) ?_
        rw [← e]; exact hit s hp
      · exact ih (fun c hc => hs c (List.mem_cons_of_mem _ hc)) h _ (hP s b (hs b List.mem_cons_self) hp)
  exact main l (fun _ h => h) ha
theorem fold_keep {σ α : Type} {f : σ → α → σ} {P : σ → Prop} : ∀ {l : List α} {s : σ}, (∀ s, ∀ b ∈ l, P s → P (f s b)) → P s → P (l.foldl f s)
  | [], _, _, h => h
  | b :: l, s, hP, h => fold_keep (l := l) (fun s c hc => hP s c (List.mem_cons_of_mem _ hc)) (hP s b List.mem_cons_self h)
end Mine
end

section
open PySem PySem.W PyProof.Rows PySem.Calls PySem.Spec
set_option Elab.async false
set_option maxRecDepth 100000
namespace Mine

/-- a call that makes nothing that lasts: whatever the ledger, it stands behind the call -/
def Pure (d : Nat) (f : Addr) (vs : List Value) (kw : List (Str × Value)) (pre : Prop) (Out : Value → Prop) : Prop :=
  ∀ (w : World) (mean : ExcName → Option Value) (mg mb : Str → Option Value) (dp un : Nat) (gd : Option (List Code)) (cn : Str) (cs : Scope) (a : Addr) (ccd : Value) (cl : List (Str × Addr)) (outer : List Env) (A₀ : Around) (base h₀ : Heap) (L : Addr) (m : Str → Option Value) (news : List (Addr × Obj)) (s : Shared)
    (Q E : Value → Shared → Prop),
    Below A₀ base outer h₀ → Fr h₀ L s.heap m → (hd.heap_39 w.params).In h₀ → News h₀ L s.heap news → Top hd.view_39 (looseW hd.view_39 [Str.ofString "_name_disallowed_re", Str.ofString "_value_disallowed_re"]) mean mg mb h₀ → cs.kind = .function → pre → dp + d < recursionLimit → un + 8 * d < cLine →
    (∀ r h' tk', Out r → Fr h₀ L h' m → News h₀ L h' news → Q r { s with heap := h', toks := tk' }) →
    wpAny (model PySem.Challenge.rw_il0203_01.row.prog w) (ktrTop dp un gd cn cs L a ccd cl outer) (call (.ref f) vs kw) Q E s

theorem Pure.use {d : Nat} {f : Addr} {vs : List Value} {kw : List (Str × Value)} {pre : Prop} {Out : Value → Prop} (C : Pure d f vs kw pre Out)
    {w : World} {mean : ExcName → Option Value} {mg mb : Str → Option Value} {dp un : Nat} {gd : Option (List Code)} {cn : Str} {cs : Scope} {a : Addr} {ccd : Value} {cl : List (Str × Addr)} {outer : List Env} {A₀ : Around} {base h₀ : Heap} {L : Addr} {m : Str → Option Value} {news : List (Addr × Obj)} {s : Shared}
    {Q E : Value → Shared → Prop}
    (B : Below A₀ base outer h₀) (F : Fr h₀ L s.heap m) (X : (hd.heap_39 w.params).In h₀) (N : News h₀ L s.heap news) (T : Top hd.view_39 (looseW hd.view_39 [Str.ofString "_name_disallowed_re", Str.ofString "_value_disallowed_re"]) mean mg mb h₀)
    (hk : cs.kind = .function) (hp : pre) (hd : dp + d < recursionLimit) (hu : un + 8 * d < cLine)
    (ret : ∀ r h' tk', Out r → Fr h₀ L h' m → News h₀ L h' news → Q r { s with heap := h', toks := tk' }) :
    wpAny (model PySem.Challenge.rw_il0203_01.row.prog w) (ktrTop dp un gd cn cs L a ccd cl outer) (call (.ref f) vs kw) Q E s :=
  C w mean mg mb dp un gd cn cs a ccd cl outer A₀ base h₀ L m news s Q E B F X N T hk hp hd hu ret


def isUp (n : Nat) : Bool := decide (65 ≤ n) && decide (n ≤ 90)
def isLo (n : Nat) : Bool := decide (97 ≤ n) && decide (n ≤ 122)

-- behind «refine' Pure.use C ..»: the premises
set_option hygiene false in
local macro_rules | `(tactic| walk_at "mine:sides") => `(tactic| (
  (case k1 => k_asm); (case k2 => k_asm); (case k3 => k_asm); (case k4 => k_asm); (case k5 => k_asm);
  (case k6 => first | exact rfl | assumption);
  (case k8 => ktr_room); (case k9 => ktr_units)))
set_option hygiene false in
local macro_rules | `(tactic| walk_at "mine:after") => `(tactic| (
  intro r9 h9 tk9 ho9 F9 N9; (first | (obtain ⟨t9, e9⟩ := ho9; subst e9) | subst ho9 | skip); (try dsimp only); (try k_fold)))
set_option maxHeartbeats 4000000 in
theorem ctoi_ok (n : Nat) (t : Tok) : Pure 2 182 [.str ⟨#[n]⟩ t] [] True (fun r => ∃ t, r = .int n t) := by
  (( unfold Pure; k_fill; intro w mean mg mb dp un gd cn cs a ccd cl outer A₀ base h₀ L m news s Q E B F X N T hk hp hd' hu hret; refine wpAny_call ?_; k_dflt cell_enter))
  k_steps
  all_goals (refine hret _ _ _ ⟨_, rfl⟩ ?_ ?_ <;> k_asm)

local macro_rules | `(tactic| walk_at "call ref") => `(tactic| (k_here; k_dflt (refine' Pure.use (ctoi_ok _ _) ?k1 ?k2 ?k3 ?k4 ?k5 ?k6 ?k7 ?k8 ?k9 ?_; walk_at "mine:sides"; (case k7 => trivial)); walk_at "mine:after"))



set_option maxHeartbeats 4000000 in
theorem islower_ok (n : Nat) (t : Tok) : Pure 4 196 [.str ⟨#[n]⟩ t] [] True (fun r => r = .bool (isLo n)) := by
  (( unfold Pure; k_fill; intro w mean mg mb dp un gd cn cs a ccd cl outer A₀ base h₀ L m news s Q E B F X N T hk hp hd' hu hret; refine wpAny_call ?_; k_dflt cell_enter))
  k_steps
  all_goals (( refine hret _ _ _ ?e1 ?e2 ?e3; (case e2 => k_asm); (case e3 => k_asm); (case e1 => (try dsimp only); first | exact rfl | exact ⟨_, rfl⟩ | (congr 1; rw [Bool.eq_iff_iff]; simp only [isLo, isUp, Bool.and_eq_true, Bool.or_eq_true, decide_eq_true_eq]; omega) | (congr 1; simp_all; done))))

set_option maxHeartbeats 4000000 in
theorem isupper_ok (n : Nat) (t : Tok) : Pure 4 203 [.str ⟨#[n]⟩ t] [] True (fun r => r = .bool (isUp n)) := by
  (( unfold Pure; k_fill; intro w mean mg mb dp un gd cn cs a ccd cl outer A₀ base h₀ L m news s Q E B F X N T hk hp hd' hu hret; refine wpAny_call ?_; k_dflt cell_enter))
  k_steps
  all_goals (( refine hret _ _ _ ?e1 ?e2 ?e3; (case e2 => k_asm); (case e3 => k_asm); (case e1 => (try dsimp only); first | exact rfl | exact ⟨_, rfl⟩ | (congr 1; rw [Bool.eq_iff_iff]; simp only [isLo, isUp, Bool.and_eq_true, Bool.or_eq_true, decide_eq_true_eq]; omega) | (congr 1; simp_all; done))))

set_option maxHeartbeats 4000000 in
theorem ismeta_ok (n : Nat) (t : Tok) : Pure 4 210 [.str ⟨#[n]⟩ t] [] True (fun r => r = .bool (decide (127 < n))) := by
  (( unfold Pure; k_fill; intro w mean mg mb dp un gd cn cs a ccd cl outer A₀ base h₀ L m news s Q E B F X N T hk hp hd' hu hret; refine wpAny_call ?_; k_dflt cell_enter))
  k_steps
  all_goals (( refine hret _ _ _ ?e1 ?e2 ?e3; (case e2 => k_asm); (case e3 => k_asm); (case e1 => (try dsimp only); first | exact rfl | exact ⟨_, rfl⟩ | (congr 1; rw [Bool.eq_iff_iff]; simp only [isLo, isUp, Bool.and_eq_true, Bool.or_eq_true, decide_eq_true_eq]; omega) | (congr 1; simp_all; done))))

local macro_rules | `(tactic| walk_at "call ref") => `(tactic| (k_here; k_dflt (refine' Pure.use (islower_ok _ _) ?k1 ?k2 ?k3 ?k4 ?k5 ?k6 ?k7 ?k8 ?k9 ?_; walk_at "mine:sides"; (case k7 => trivial)); walk_at "mine:after"))
local macro_rules | `(tactic| walk_at "call ref") => `(tactic| (k_here; k_dflt (refine' Pure.use (isupper_ok _ _) ?k1 ?k2 ?k3 ?k4 ?k5 ?k6 ?k7 ?k8 ?k9 ?_; walk_at "mine:sides"; (case k7 => trivial)); walk_at "mine:after"))

set_option maxHeartbeats 4000000 in
theorem isalpha_ok (n : Nat) (t : Tok) : Pure 6 189 [.str ⟨#[n]⟩ t] [] True (fun r => r = .bool (isUp n || isLo n)) := by
  (( unfold Pure; k_fill; intro w mean mg mb dp un gd cn cs a ccd cl outer A₀ base h₀ L m news s Q E B F X N T hk hp hd' hu hret; refine wpAny_call ?_; k_dflt cell_enter))
  k_steps
  all_goals (( refine hret _ _ _ ?e1 ?e2 ?e3; (case e2 => k_asm); (case e3 => k_asm); (case e1 => (try dsimp only); first | exact rfl | exact ⟨_, rfl⟩ | (congr 1; rw [Bool.eq_iff_iff]; simp only [isLo, isUp, Bool.and_eq_true, Bool.or_eq_true, decide_eq_true_eq]; omega) | (congr 1; simp_all; done))))


theorem or_code (n : Nat) (h : n < 256) : Builtin.bitOr (n : Int) 128 = ((n ||| 128 : Nat) : Int) := by
  have : ∀ k : Fin 256, Builtin.bitOr (k.val : Int) 128 = ((k.val ||| 128 : Nat) : Int) := by decide +kernel
  exact this ⟨n, h⟩
theorem and_code (n : Nat) (h : n < 256) : Builtin.bitAnd (n : Int) 127 = ((n &&& 127 : Nat) : Int) := by
  have : ∀ k : Fin 256, Builtin.bitAnd (k.val : Int) 127 = ((k.val &&& 127 : Nat) : Int) := by decide +kernel
  exact this ⟨n, h⟩
theorem or_lt (n : Nat) (h : n < 256) : n ||| 128 < 256 := by
  have : ∀ k : Fin 256, k.val ||| 128 < 256 := by decide +kernel
  exact this ⟨n, h⟩
theorem and_lt (n : Nat) : n &&& 127 < 128 := Nat.lt_of_le_of_lt Nat.and_le_right (by decide)

set_option maxHeartbeats 4000000 in
theorem alt_ok (n : Nat) (t : Tok) : Pure 6 224 [.str ⟨#[n]⟩ t] [] (n < 256) (fun r => ∃ t, r = .str ⟨#[n ||| 128]⟩ t) := by
  (( unfold Pure; k_fill; intro w mean mg mb dp un gd cn cs a ccd cl outer A₀ base h₀ L m news s Q E B F X N T hk hp hd' hu hret; refine wpAny_call ?_; k_dflt cell_enter))
  k_steps
  all_goals (
    (have hlt := or_lt n hp)
    rw [or_code n hp]
    refine chr_of_range (by omega) (by omega) ?_
    rw [Int.toNat_natCast]
    k_steps
    (( refine hret _ _ _ ?e1 ?e2 ?e3; (case e2 => k_asm); (case e3 => k_asm); (case e1 => (try dsimp only); first | exact rfl | exact ⟨_, rfl⟩ | (congr 1; rw [Bool.eq_iff_iff]; simp only [isLo, isUp, Bool.and_eq_true, Bool.or_eq_true, decide_eq_true_eq]; omega) | (congr 1; simp_all; done)))))

set_option maxHeartbeats 4000000 in
theorem ascii_ok (n : Nat) (t : Tok) : Pure 6 217 [.str ⟨#[n]⟩ t] [] (n < 256) (fun r => ∃ t, r = .str ⟨#[n &&& 127]⟩ t) := by
  (( unfold Pure; k_fill; intro w mean mg mb dp un gd cn cs a ccd cl outer A₀ base h₀ L m news s Q E B F X N T hk hp hd' hu hret; refine wpAny_call ?_; k_dflt cell_enter))
  k_steps
  all_goals (
    (have hlt := and_lt n)
    rw [and_code n hp]
    refine chr_of_range (by omega) (by omega) ?_
    rw [Int.toNat_natCast]
    k_steps
    (( refine hret _ _ _ ?e1 ?e2 ?e3; (case e2 => k_asm); (case e3 => k_asm); (case e1 => (try dsimp only); first | exact rfl | exact ⟨_, rfl⟩ | (congr 1; rw [Bool.eq_iff_iff]; simp only [isLo, isUp, Bool.and_eq_true, Bool.or_eq_true, decide_eq_true_eq]; omega) | (congr 1; simp_all; done)))))

end Mine
end

section
open PySem PySem.W PyProof.Rows PySem.Calls PySem.Spec
set_option Elab.async false
set_option maxRecDepth 100000
namespace Mine

-- behind «refine' Pure.use C ..»: the premises
set_option hygiene false in
local macro_rules | `(tactic| walk_at "mine:sides") => `(tactic| (
  (case k1 => k_asm); (case k2 => k_asm); (case k3 => k_asm); (case k4 => k_asm); (case k5 => k_asm);
  (case k6 => first | exact rfl | assumption);
  (case k8 => ktr_room); (case k9 => ktr_units)))
set_option hygiene false in
local macro_rules | `(tactic| walk_at "mine:after") => `(tactic| (
  intro r9 h9 tk9 ho9 F9 N9; (first | (obtain ⟨t9, e9⟩ := ho9; subst e9) | subst ho9 | skip); (try dsimp only); (try k_fold)))
local macro_rules | `(tactic| walk_at "getMethod ref") => `(tactic| (k_here; (with_reducible show wpAny _ _ (getMethod (Value.ref _) (PySem.Str.ofString "search") _) _ _ _); k_dflt (refine' getMethod_search ?k1 ?k2 ?k3 ?_; (case k1 => k_asm); (case k2 => k_asm); (case k3 => k_is); k_whole)))
set_option hygiene false in
local macro_rules | `(tactic| walk_at "call builtin:re.Pattern.search") => `(tactic| (k_here; k_dflt (refine' search_K ?k1 ?k2 ?k3 ?k4 ?k5 ?k6 ?_; (case k1 => k_asm); (case k2 => k_asm); (case k3 => k_is); (case k4 => k_is); (case k5 => first | exact .inl (by decide +kernel) | exact .inr (by decide +kernel)); (case k6 => exact hp); k_whole)))

set_option maxHeartbeats 4000000 in
theorem conv_name (S : Addr) (x : Str) (t : Tok) : Pure 4 70 [.ref S, .str x t] [(Str.ofString "name", .bool true)] (∀ c ∈ x.cps, okSign c) (fun r => r = .str x t) := by
  (( unfold Pure; k_fill; intro w mean mg mb dp un gd cn cs a ccd cl outer A₀ base h₀ L m news s Q E B F X N T hk hp hd' hu hret; refine wpAny_call ?_; k_dflt cell_enter))
  k_steps
  all_goals (( refine hret _ _ _ ?e1 ?e2 ?e3; (case e2 => k_asm); (case e3 => k_asm); (case e1 => first | exact rfl | exact ⟨_, rfl⟩ | ((try dsimp only); congr 1; rw [Bool.eq_iff_iff]; simp only [isLo, isUp, Bool.and_eq_true, Bool.or_eq_true, decide_eq_true_eq]; omega) | ((try dsimp only); congr 1; simp_all; done))))
set_option maxHeartbeats 4000000 in
theorem conv_val (S : Addr) (x : Str) (t : Tok) : Pure 4 70 [.ref S, .str x t] [(Str.ofString "name", .bool false)] (∀ c ∈ x.cps, okSign c) (fun r => r = .str x t) := by
  (( unfold Pure; k_fill; intro w mean mg mb dp un gd cn cs a ccd cl outer A₀ base h₀ L m news s Q E B F X N T hk hp hd' hu hret; refine wpAny_call ?_; k_dflt cell_enter))
  k_steps
  all_goals (( refine hret _ _ _ ?e1 ?e2 ?e3; (case e2 => k_asm); (case e3 => k_asm); (case e1 => first | exact rfl | exact ⟨_, rfl⟩ | ((try dsimp only); congr 1; rw [Bool.eq_iff_iff]; simp only [isLo, isUp, Bool.and_eq_true, Bool.or_eq_true, decide_eq_true_eq]; omega) | ((try dsimp only); congr 1; simp_all; done))))
end Mine
end

section
open PySem PySem.W PyProof.Rows PySem.Calls PySem.Spec
set_option Elab.async false
set_option maxRecDepth 100000
namespace Mine

-- behind «refine' Pure.use C ..»: the premises
set_option hygiene false in
local macro_rules | `(tactic| walk_at "mine:sides") => `(tactic| (
  (case k1 => k_asm); (case k2 => k_asm); (case k3 => k_asm); (case k4 => k_asm); (case k5 => k_asm);
  (case k6 => first | exact rfl | assumption);
  (case k8 => ktr_room); (case k9 => ktr_units)))
set_option hygiene false in
local macro_rules | `(tactic| walk_at "mine:after") => `(tactic| (
  intro r9 h9 tk9 ho9 F9 N9; (first | (obtain ⟨t9, e9⟩ := ho9; subst e9) | subst ho9 | skip); (try dsimp only); (try k_fold)))
/-- the tuples of a list of pairs (a sign, a text), borne by the ledger -/
inductive TabIn (news : List (Addr × Obj)) : List Value → List (Nat × Str) → Prop
  | nil : TabIn news [] []
  | cons {a : Addr} {k : Nat} {x : Str} {t u : Tok} {n : Nat} {vs : List Value} {tab : List (Nat × Str)} :
      (a, ({ cls := .type "tuple", data := .seq #[.str ⟨#[k]⟩ t, .str x u] n } : Obj)) ∈ news → TabIn news vs tab → TabIn news (.ref a :: vs) ((k, x) :: tab)

theorem TabIn.get {news : List (Addr × Obj)} {vs : List Value} {tab : List (Nat × Str)} (h : TabIn news vs tab) : ∀ {i : Nat} {v : Value}, vs[i]? = some v →
    ∃ (a : Addr) (k : Nat) (x : Str) (t u : Tok) (n : Nat), v = .ref a ∧ tab[i]? = some (k, x) ∧ (a, ({ cls := .type "tuple", data := .seq #[.str ⟨#[k]⟩ t, .str x u] n } : Obj)) ∈ news := by
  induction h with
  | nil => intro i v h; simp at h
  | cons hm _ ih =>
    intro i v h
    cases i with
    | zero =>
      simp only [List.getElem?_cons_zero, Option.some.injEq] at h
      subst h
      exact ⟨_, _, _, _, _, _, rfl, rfl, hm⟩
    | succ i =>
      simp only [List.getElem?_cons_succ] at h ⊢
      exact ih h
theorem TabIn.length {news : List (Addr × Obj)} {vs : List Value} {tab : List (Nat × Str)} (h : TabIn news vs tab) : vs.length = tab.length := by
  induction h with
  | nil => rfl
  | cons _ _ ih => simp [ih]
/-- a call that makes nothing that lasts and reads the ledger -/
def PureN (d : Nat) (f : Addr) (vs : List Value) (kw : List (Str × Value)) (pre : List (Addr × Obj) → Prop) (Out : Value → Prop) : Prop :=
  ∀ (w : World) (mean : ExcName → Option Value) (mg mb : Str → Option Value) (dp un : Nat) (gd : Option (List Code)) (cn : Str) (cs : Scope) (a : Addr) (ccd : Value) (cl : List (Str × Addr)) (outer : List Env) (A₀ : Around) (base h₀ : Heap) (L : Addr) (m : Str → Option Value) (news : List (Addr × Obj)) (s : Shared)
    (Q E : Value → Shared → Prop),
    Below A₀ base outer h₀ → Fr h₀ L s.heap m → (hd.heap_39 w.params).In h₀ → News h₀ L s.heap news → Top hd.view_39 (looseW hd.view_39 [Str.ofString "_name_disallowed_re", Str.ofString "_value_disallowed_re"]) mean mg mb h₀ → cs.kind = .function → pre news → dp + d < recursionLimit → un + 8 * d < cLine →
    (∀ r h' tk', Out r → Fr h₀ L h' m → News h₀ L h' news → Q r { s with heap := h', toks := tk' }) →
    wpAny (model PySem.Challenge.rw_il0203_01.row.prog w) (ktrTop dp un gd cn cs L a ccd cl outer) (call (.ref f) vs kw) Q E s

theorem PureN.use {d : Nat} {f : Addr} {vs : List Value} {kw : List (Str × Value)} {pre : List (Addr × Obj) → Prop} {Out : Value → Prop} (C : PureN d f vs kw pre Out)
    {w : World} {mean : ExcName → Option Value} {mg mb : Str → Option Value} {dp un : Nat} {gd : Option (List Code)} {cn : Str} {cs : Scope} {a : Addr} {ccd : Value} {cl : List (Str × Addr)} {outer : List Env} {A₀ : Around} {base h₀ : Heap} {L : Addr} {m : Str → Option Value} {news : List (Addr × Obj)} {s : Shared}
    {Q E : Value → Shared → Prop}
    (B : Below A₀ base outer h₀) (F : Fr h₀ L s.heap m) (X : (hd.heap_39 w.params).In h₀) (N : News h₀ L s.heap news) (T : Top hd.view_39 (looseW hd.view_39 [Str.ofString "_name_disallowed_re", Str.ofString "_value_disallowed_re"]) mean mg mb h₀)
    (hk : cs.kind = .function) (hp : pre news) (hd : dp + d < recursionLimit) (hu : un + 8 * d < cLine)
    (ret : ∀ r h' tk', Out r → Fr h₀ L h' m → News h₀ L h' news → Q r { s with heap := h', toks := tk' }) :
    wpAny (model PySem.Challenge.rw_il0203_01.row.prog w) (ktrTop dp un gd cn cs L a ccd cl outer) (call (.ref f) vs kw) Q E s :=
  C w mean mg mb dp un gd cn cs a ccd cl outer A₀ base h₀ L m news s Q E B F X N T hk hp hd hu ret

def low (n : Nat) : Nat := if isUp n then n + 32 else n
def look : List (Nat × Str) → Nat → Option Str
  | [], _ => none
  | (k, x) :: r, n => if low k = low n then some x else look r n


theorem lower_code (c : Nat) (h : c < 127) : Txt.lower ⟨#[c]⟩ = ⟨#[low c]⟩ := by
  have : ∀ k : Fin 127, Txt.lower ⟨#[k.val]⟩ = ⟨#[low k.val]⟩ := by decide +kernel
  exact this ⟨c, h⟩
theorem low_ok (c : Nat) (h1 : 32 ≤ c) (h : c < 127) : okSign (low c) := by
  have : ∀ k : Fin 127, 32 ≤ k.val → 32 ≤ low k.val ∧ low k.val ≠ 127 ∧ low k.val < 256 := by decide +kernel
  exact this ⟨c, h⟩ h1
theorem lower1 {prog : Program} {w : World} {A : Around} {E : Value → Shared → Prop} {s : Shared} {c : Nat} {t : Tok} {Q : Value → Shared → Prop} (h : c < 127) (hQ : Q (.str ⟨#[low c]⟩ s.toks) { s with toks := s.toks + 1 }) :
    wpAny (model prog w) A (call (.builtin "str.lower") [.str ⟨#[c]⟩ t]) Q E s :=
  SCL.lower (by simp [Str.length]) fun _ => by rw [lower_code c h]; exact hQ
theorem ok_one {c : Nat} (h : okSign c) : ∀ x ∈ (⟨#[c]⟩ : Str).cps, okSign x := by
  intro x hx
  have : x = c := by simpa using hx
  exact this ▸ h
local macro_rules | `(tactic| walk_at "call builtin:str.lower") => `(tactic| (k_here; refine lower1 (by omega) ?_))
local macro_rules | `(tactic| walk_at "call ref") => `(tactic| (k_here; k_dflt (refine' Pure.use (conv_name _ _ _) ?k1 ?k2 ?k3 ?k4 ?k5 ?k6 ?k7 ?k8 ?k9 ?_; walk_at "mine:sides"; (case k7 => walk_at "mine:ok")); walk_at "mine:after"))
local macro_rules | `(tactic| walk_at "mine:ok") => `(tactic| exact ok_one (low_ok _ (by omega) (by omega)))

theorem look_hit : ∀ {tab : List (Nat × Str)} {c : Nat} {i k : Nat} {x : Str}, tab[i]? = some (k, x) → low k = low c → (∀ j p, j < i → tab[j]? = some p → low p.1 ≠ low c) → look tab c = some x
  | [], _, _, _, _, h, _, _ => by simp at h
  | (k', x') :: r, c, 0, k, x, h, hk, _ => by
    simp only [List.getElem?_cons_zero, Option.some.injEq, Prod.mk.injEq] at h
    unfold look; rw [if_pos (by rw [h.1]; exact hk), h.2]
  | (k', x') :: r, c, i + 1, k, x, h, hk, hne => by
    simp only [List.getElem?_cons_succ] at h
    unfold look; rw [if_neg (hne 0 (k', x') (Nat.succ_pos _) rfl)]
    exact look_hit h hk fun j p hj hp => hne (j + 1) p (Nat.succ_lt_succ hj) (by simpa using hp)
theorem look_miss : ∀ {tab : List (Nat × Str)} {c : Nat}, (∀ j p, j < tab.length → tab[j]? = some p → low p.1 ≠ low c) → look tab c = none
  | [], _, _ => rfl
  | (k', x') :: r, c, hne => by
    unfold look; rw [if_neg (hne 0 (k', x') (Nat.succ_pos _) rfl)]
    exact look_miss fun j p hj hp => hne (j + 1) p (Nat.succ_lt_succ hj) (by simpa using hp)
theorem one_eq {a b : Nat} (h : ((⟨#[a]⟩ : Str) == ⟨#[b]⟩) = true) : a = b := by
  have := eq_of_beq h
  simpa using this
theorem one_ne {a b : Nat} (h : ((⟨#[a]⟩ : Str) == ⟨#[b]⟩) = false) : a ≠ b := by
  intro e
  subst e
  simp at h
theorem seen_next {tab : List (Nat × Str)} {c i k : Nat} {x : Str} (h : tab[i]? = some (k, x)) (hk : low k ≠ low c) (hne : ∀ j p, j < i → tab[j]? = some p → low p.1 ≠ low c) : ∀ j p, j < i + 1 → tab[j]? = some p → low p.1 ≠ low c := by
  intro j p hj hp
  by_cases e : j = i
  · subst e
    rw [h] at hp
    exact (Option.some.inj hp) ▸ hk
  · exact hne j p (by omega) hp

set_option maxHeartbeats 4000000 in
theorem get_ok (S d Lh : Addr) (hh : Int) (tk : Tok) (n k c : Nat) (t : Tok) (vs : List Value) (tab : List (Nat × Str)) :
    PureN 7 118 [.ref S, .str ⟨#[c]⟩ t] [] (fun news => (S, instObj 171 d) ∈ news ∧ (d, dictOf [⟨hh, .str (Str.ofString "_headers") tk, .ref Lh⟩] n) ∈ news ∧ (Lh, listOf vs.toArray k) ∈ news ∧ TabIn news vs tab ∧ (∀ p ∈ tab, 32 ≤ p.1 ∧ p.1 < 127) ∧ 32 ≤ c ∧ c < 127)
      (fun r => match look tab c with | some x => ∃ u, r = .str x u | none => r = .none) := by
  (( unfold PureN; k_fill; intro w mean mg mb dp un gd cn cs a ccd cl outer A₀ base h₀ L m news s Q E B F X N T hk hp hd' hu hret))
  obtain ⟨m1, m2, m3, hT, hK, hc1, hc2⟩ := hp
  refine wpAny_call ?_
  (k_dflt (first | (refine' code_def ?k1 ?k2 ?k3 ?k4 ?k5 ?kA ?kF ?kK ?k6 ?k7 ?k8 ?k9 ?kB ?_ ?c2 ?c3 ?c4 ?c5; (case kA => exact rfl); (case kF => exact rfl); (case kK => first | exact rfl | assumption); (case k1 => k_asm); (case k2 => k_asm); (case k3 => k_asm); (case k4 => k_asm); (case k5 => k_asm); (case k6 => k_is); (case k7 => k_is); (case k8 => ktr_room); (case k9 => first | exact BindsTo.of_eq rfl | exact binds_K (by k_in) rfl (by k_is) rfl rfl rfl); (case c5 => decide); (case kB => exact locs rfl); (case c2 => exact rfl); (case c3 => exact rfl); (case c4 => exact rfl); k_whole; intro g' L' h' FG' F' N' B' X' T'; (try dsimp only); (try k_lift B'); (try k_fold)) | (refine' code_defC ?k1 ?k2 ?k3 ?k4 ?k5 ?kA ?kF ?kK ?k6 ?k7 ?k8 ?k9 ?kB ?kD ?_ ?c2 ?c3 ?c4; (case kA => exact rfl); (case kF => exact rfl); (case kK => first | exact rfl | assumption); (case k1 => k_asm); (case k2 => k_asm); (case k3 => k_asm); (case k4 => k_asm); (case k5 => k_asm); (case k6 => k_is); (case k7 => k_is); (case k8 => ktr_room); (case k9 => first | exact BindsTo.of_eq rfl | exact binds_K (by k_in) rfl (by k_is) rfl rfl rfl); (case kB => exact rfl); (case kD => decide +kernel); (case c2 => exact rfl); (case c3 => exact rfl); (case c4 => exact rfl); k_whole; intro g' L' h' tk' cells' FG' F' N' Y' B' X' T' l1; (try k_lt l1); k_cells Y'; (try simp only [List.cons_append, List.nil_append] at N'); (try dsimp only); (try k_lift B'); (try k_fold))))
  k_steps
  refine for_turns g' ?_
  k_steps
  (rename Fr _ _ _ _ => F1); (rename News _ _ _ _ => N1)
  refine turns_listN [Str.ofString "k", Str.ofString "v"] (fun i u news₁ => news₁ = news ∧ ∀ j p, j < i → tab[j]? = some p → low p.1 ≠ low c) rfl F1 N1 m3 rfl rfl ⟨rfl, fun _ _ h => absurd h (Nat.not_lt_zero _)⟩ ?_ ?_ ?_
  · intro I i s' v Q' hv hI hq
    obtain ⟨a', k', x', t', u', n', rfl, _, _⟩ := hT.get hv
    exact wpAny_letOwnedTupleGo_listiter hI hq
  · rintro i v u _ h9 tk9 I oI hv ⟨rfl, hne⟩ hI hIL F2 N2
    obtain ⟨a', k', x', t', u', n', rfl, hv', hm'⟩ := hT.get hv
    clear F1 N1
    simp only [over] at F2
    have hk' := hK _ (List.mem_of_getElem? hv')
    dsimp only at hk'
    k_dflt (refine assign_pair rfl rfl F2 N2 (List.mem_cons_of_mem _ (List.mem_cons_of_mem _ hm')) (fun h3 F3 N3 => ?_) rfl rfl)
    k_steps
    · rename_i e9
      (try dsimp only)
      unfold TurnEnd
      (try dsimp only)
      k_steps
      refine hret _ _ _ ?_ ?_ ?_
      · rw [look_hit hv' (one_eq e9) hne]; exact ⟨_, rfl⟩
      · k_asm
      · refine cb_drop (by assumption) fun p hp => List.mem_cons_of_mem _ (List.mem_cons_of_mem _ hp)
    · rename_i e9
      refine ⟨_, _, _, _, rfl, F3, fun p hp => N3 p (List.mem_cons_of_mem _ (List.mem_cons_of_mem _ hp)), cb_drop N3 (by simp), fun p hp q => hI p hp (List.mem_singleton.mp q), ?_, rfl, seen_next hv' (one_ne e9) hne⟩
      intro z hz
      simp only [List.mem_cons, List.not_mem_nil, or_false, not_or] at hz
      simp only [hz.1, hz.2, if_false]
  · intro h9 tk9 u news9 hP F2 N2
    obtain ⟨rfl, hne⟩ := hP
    clear F1 N1
    simp only [over] at F2
    k_steps
    refine hret _ _ _ ?_ ?_ ?_
    · rw [look_miss (hT.length ▸ hne)]
    · k_asm
    · k_asm
end Mine
end

section
open PySem PySem.W PyProof.Rows PySem.Calls PySem.Spec
set_option Elab.async false
set_option maxRecDepth 100000
open Mine
local macro_rules | `(tactic| k_mem) => `(tactic| first | exact List.mem_cons_self | (refine' List.mem_cons_of_mem _ ?_; k_mem))
local macro_rules | `(tactic| k_all) => `(tactic| first | assumption | exact List.forall_mem_nil _ | exact ne_of_all_lt (by assumption) (by omega) | exact allLt_ne (by assumption) (by omega) | exact allLt_ne (And.right (by assumption)) (by omega) | exact allLt_ne (And.right (And.right (by assumption))) (by omega) | exact allLt_ne (And.right (And.right (And.right (by assumption)))) (by omega) | exact allLt_ne (And.right (And.right (And.right (And.right (by assumption))))) (by omega) | (refine' List.forall_mem_cons.mpr ⟨?a, ?b⟩; (case a => k_ne); (case b => k_all)))
set_option hygiene false in
local macro_rules | `(tactic| walk_at "mine:sides") => `(tactic| (
  (case k1 => k_asm); (case k2 => k_asm); (case k3 => k_asm); (case k4 => k_asm); (case k5 => k_asm);
  (case k6 => first | exact rfl | assumption);
  (case k8 => ktr_room); (case k9 => ktr_units)))
set_option hygiene false in
local macro_rules | `(tactic| walk_at "mine:after") => `(tactic| (
  intro r9 h9 tk9 ho9 F9 N9; (first | (obtain ⟨t9, e9⟩ := ho9; subst e9) | subst ho9 | skip); (try dsimp only); (try k_fold)))
set_option hygiene false in
local macro_rules | `(tactic| walk_at "mine:chg") => `(tactic| (
  (case k1 => k_asm); (case k2 => k_asm); (case k3 => k_asm); (case k4 => k_asm); (case k5 => k_asm);
  (case k6 => first | exact rfl | assumption);
  (case kd => ktr_room); (case ku => ktr_units)))

section
open PySem PySem.W PyProof.Rows PySem.Calls PySem.Spec
set_option Elab.async false
set_option maxRecDepth 100000
namespace Mine

-- behind «refine' Pure.use C ..»: the premises
local macro_rules | `(tactic| walk_at "call builtin:str.lower") => `(tactic| (k_here; refine lower1 (by omega) ?_))
local macro_rules | `(tactic| walk_at "call ref") => `(tactic| (k_here; k_dflt (refine' Pure.use (conv_name _ _ _) ?k1 ?k2 ?k3 ?k4 ?k5 ?k6 ?k7 ?k8 ?k9 ?_; walk_at "mine:sides"; (case k7 => walk_at "mine:ok")); walk_at "mine:after"))
local macro_rules | `(tactic| walk_at "mine:ok") => `(tactic| first | exact ok_one (low_ok _ (by omega) (by omega)) | exact ok_one (by refine ⟨?_, ?_, ?_⟩ <;> omega))

/-- a call that changes the list at Lh and may make objects that last -/
def Chg (d : Nat) (f : Addr) (vs : List Value) (kw : List (Str × Value)) (Lh : Addr) (its : List Value) (k : Nat) (pre : List (Addr × Obj) → Prop) (Out : List (Addr × Obj) → Value → List Value → List (Addr × Obj) → Prop) : Prop :=
  ∀ (w : World) (mean : ExcName → Option Value) (mg mb : Str → Option Value) (dp un : Nat) (gd : Option (List Code)) (cn : Str) (cs : Scope) (a : Addr) (ccd : Value) (cl : List (Str × Addr)) (outer : List Env) (A₀ : Around) (base h₀ : Heap) (L : Addr) (m : Str → Option Value) (rest : List (Addr × Obj)) (s : Shared)
    (Q E : Value → Shared → Prop),
    Below A₀ base outer h₀ → Fr h₀ L s.heap m → (hd.heap_39 w.params).In h₀ → News h₀ L s.heap ((Lh, listOf its.toArray k) :: rest) → Top hd.view_39 (looseW hd.view_39 [Str.ofString "_name_disallowed_re", Str.ofString "_value_disallowed_re"]) mean mg mb h₀ → cs.kind = .function → pre rest → (∀ p ∈ rest, p.1 ≠ Lh) → dp + d < recursionLimit → un + 8 * d < cLine →
    (∀ r h' tk' its' k' ext, Out rest r its' ext → Fr h₀ L h' m → News h₀ L h' ((Lh, listOf its'.toArray k') :: (ext ++ rest)) → (∀ p ∈ ext, p.1 ≠ Lh ∧ ∀ q ∈ rest, q.1 ≠ p.1) → Q r { s with heap := h', toks := tk' }) →
    wpAny (model PySem.Challenge.rw_il0203_01.row.prog w) (ktrTop dp un gd cn cs L a ccd cl outer) (call (.ref f) vs kw) Q E s

theorem ne_of_bne {a b : Nat} (h : ((⟨#[a]⟩ : Str) != ⟨#[b]⟩) = true) : a ≠ b := by
  intro e; subst e; simp at h
theorem eq_of_bne {a b : Nat} (h : ((⟨#[a]⟩ : Str) != ⟨#[b]⟩) = false) : a = b := by
  have : (⟨#[a]⟩ : Str) = ⟨#[b]⟩ := by simpa using h
  simpa using this
theorem TabIn.snoc {news : List (Addr × Obj)} {vs : List Value} {tab : List (Nat × Str)} (h : TabIn news vs tab) {a : Addr} {k : Nat} {x : Str} {t u : Tok} {n : Nat}
    (hm : (a, ({ cls := .type "tuple", data := .seq #[.str ⟨#[k]⟩ t, .str x u] n } : Obj)) ∈ news) : TabIn news (vs ++ [.ref a]) (tab ++ [(k, x)]) := by
  induction h with
  | nil => exact .cons hm .nil
  | cons h' _ ih => exact .cons h' ih
theorem TabIn.sub {news news' : List (Addr × Obj)} {vs : List Value} {tab : List (Nat × Str)} (h : TabIn news vs tab) (hs : ∀ p ∈ news, p ∈ news') : TabIn news' vs tab := by
  induction h with
  | nil => exact .nil
  | cons h' _ ih => exact .cons (hs _ h') ih
theorem tab_yes {news : List (Addr × Obj)} {tab : List (Nat × Str)} {c i k : Nat} {x : Str} {ys : List Value} {a : Addr} {t u : Tok} {n : Nat} (hR : TabIn news ys ((tab.take i).filter fun p => low p.1 ≠ low c)) (hv : tab[i]? = some (k, x))
    (hm : (a, ({ cls := .type "tuple", data := .seq #[.str ⟨#[k]⟩ t, .str x u] n } : Obj)) ∈ news) (h : low k ≠ low c) : TabIn news (ys ++ [.ref a]) ((tab.take (i + 1)).filter fun p => low p.1 ≠ low c) := by
  rw [List.take_add_one, hv, List.filter_append]
  have : ((some (k, x)).toList.filter fun p : Nat × Str => decide (low p.1 ≠ low c)) = [(k, x)] := by simp [h]
  rw [this]
  exact hR.snoc hm
theorem tab_no {news : List (Addr × Obj)} {tab : List (Nat × Str)} {c i k : Nat} {x : Str} {ys : List Value} (hR : TabIn news ys ((tab.take i).filter fun p => low p.1 ≠ low c)) (hv : tab[i]? = some (k, x)) (h : low k = low c) :
    TabIn news ys ((tab.take (i + 1)).filter fun p => low p.1 ≠ low c) := by
  rw [List.take_add_one, hv, List.filter_append]
  have : ((some (k, x)).toList.filter fun p : Nat × Str => decide (low p.1 ≠ low c)) = [] := by simp [h]
  rw [this, List.append_nil]
  exact hR
local macro_rules | `(tactic| walk_at "eval ListComp") => `(tactic| (k_here; k_dflt (refine LCt.ListComp_T (F₀ := by k_asm) (by with_unfolding_all rfl) (by decide) (by rfl) (by decide) (by rfl) ?_)))

set_option maxHeartbeats 4000000 in
theorem del_ok (S d Lh : Addr) (hh : Int) (tk : Tok) (n k c : Nat) (t : Tok) (vs : List Value) (tab : List (Nat × Str)) (tups : List (Addr × Obj)) :
    Chg 7 89 [.ref S, .str ⟨#[c]⟩ t] [] Lh vs k (fun news => (S, instObj 171 d) ∈ news ∧ (d, dictOf [⟨hh, .str (Str.ofString "_headers") tk, .ref Lh⟩] n) ∈ news ∧ TabIn tups vs tab ∧ (∀ p ∈ tups, p ∈ news) ∧ tab.length ≤ 1000 ∧ (∀ p ∈ tab, 32 ≤ p.1 ∧ p.1 < 127) ∧ 32 ≤ c ∧ c < 127)
      (fun news r vs' ext => r = .none ∧ ext = [] ∧ TabIn tups vs' (tab.filter fun p => low p.1 ≠ low c)) := by
  (( unfold Chg; k_fill; intro w mean mg mb dp un gd cn cs a ccd cl outer A₀ base h₀ L m rest s Q E B F X N T hk hp hL hd' hu hret))
  obtain ⟨m1, m2, hT, hsub, hlen, hK, hc1, hc2⟩ := hp
  have hvl := hT.length
  refine wpAny_call ?_
  (k_dflt (first | (refine' code_def ?k1 ?k2 ?k3 ?k4 ?k5 ?kA ?kF ?kK ?k6 ?k7 ?k8 ?k9 ?kB ?_ ?c2 ?c3 ?c4 ?c5; (case kA => exact rfl); (case kF => exact rfl); (case kK => first | exact rfl | assumption); (case k1 => k_asm); (case k2 => k_asm); (case k3 => k_asm); (case k4 => k_asm); (case k5 => k_asm); (case k6 => k_is); (case k7 => k_is); (case k8 => ktr_room); (case k9 => first | exact BindsTo.of_eq rfl | exact binds_K (by k_in) rfl (by k_is) rfl rfl rfl); (case c5 => decide); (case kB => exact locs rfl); (case c2 => exact rfl); (case c3 => exact rfl); (case c4 => exact rfl); k_whole; intro g' L' h' FG' F' N' B' X' T'; (try dsimp only); (try k_lift B'); (try k_fold)) | (refine' code_defC ?k1 ?k2 ?k3 ?k4 ?k5 ?kA ?kF ?kK ?k6 ?k7 ?k8 ?k9 ?kB ?kD ?_ ?c2 ?c3 ?c4; (case kA => exact rfl); (case kF => exact rfl); (case kK => first | exact rfl | assumption); (case k1 => k_asm); (case k2 => k_asm); (case k3 => k_asm); (case k4 => k_asm); (case k5 => k_asm); (case k6 => k_is); (case k7 => k_is); (case k8 => ktr_room); (case k9 => first | exact BindsTo.of_eq rfl | exact binds_K (by k_in) rfl (by k_is) rfl rfl rfl); (case kB => exact rfl); (case kD => decide +kernel); (case c2 => exact rfl); (case c3 => exact rfl); (case c4 => exact rfl); k_whole; intro g' L' h' tk' cells' FG' F' N' Y' B' X' T' l1; (try have l0 : ∀ p ∈ rest, p.1 < L' := fun p hp => l1 p (List.mem_cons_of_mem _ hp)); (try k_lt l1); k_cells Y'; (try simp only [List.cons_append, List.nil_append] at N'); (try dsimp only); (try k_lift B'); (try k_fold))))
  k_steps
  k_dflt (refine LCt.CompSrcT.ledger (by rfl) (by k_asm) (by k_asm) (by k_mem) (by simp only [List.size_toArray, sizeLine_eq]; omega) ?_)
  intro gg
  refine restT_by (vs := vs) (fun i ys => TabIn tups ys ((tab.take i).filter fun p => low p.1 ≠ low c)) (fun i v h => by simpa using h) ?_ ?_ _ 0 [] (by simp) .nil
  · intro i v ys I oI C oC D m₂ h9 tk9 E' hv hR hC hx F9 N9 off ne
    obtain ⟨a', k', x', t', u', n', rfl, hv', hm'⟩ := hT.get hv
    have hm'' := hsub _ hm'
    have hk' := hK _ (List.mem_of_getElem? hv')
    dsimp only at hk'
    k_steps
    · rename_i e9
      refine LCg.CompEnd.intro F9 N9 _ (fun p hp => hp) off (.inr ⟨_, by k_mem, rfl, _, rfl⟩) ⟨rfl, ?_⟩
      exact tab_yes hR hv' hm' (ne_of_bne e9)
    · rename_i e9
      refine LCg.CompEnd.intro F9 N9 _ (fun p hp => hp) off (.inr ⟨_, by k_mem, rfl, _, rfl⟩) ⟨rfl, ?_⟩
      exact tab_no hR hv' (eq_of_bne e9)
  · intro ys hR
    intro D h9 tk9 F9 N9 off
    k_steps
    dsimp only
    have l1' : @LT.lt Nat _ Lh L' := l1.1
    refine setItem_slice_N rfl F9 N9 (.tail (Ne.symm off.2.1) (.tail (by k_ne) (.head hL))) (List.mem_cons_self) off.2.1 ?_ fun h8 k8 F8 N8 => ?_
    · have h1 := hR.length
      have h2 := List.length_filter_le (fun p : Nat × Str => decide (low p.1 ≠ low c)) (tab.take vs.length)
      have h3 : (tab.take vs.length).length ≤ tab.length := by rw [List.length_take]; omega
      simp only [List.size_toArray, sizeLine_eq]
      omega
    clear F9 N9
    k_steps
    refine hret _ _ _ ys k8 [] ⟨rfl, rfl, ?_⟩ ?_ ?_ (List.forall_mem_nil _)
    · rw [hvl, List.take_length] at hR; exact hR
    · k_asm
    · refine cb_drop (by assumption) fun p hp => List.mem_cons_of_mem _ (List.mem_cons_of_mem _ hp)
end Mine
end

section
open PySem PySem.W PyProof.Rows PySem.Calls PySem.Spec
set_option Elab.async false
set_option maxRecDepth 100000
namespace Mine
local macro_rules | `(tactic| walk_at "mine:none") => `(tactic| skip)

-- behind «refine' Pure.use C ..»: the premises
theorem Chg.use {d : Nat} {f : Addr} {vs : List Value} {kw : List (Str × Value)} {Lh : Addr} {its : List Value} {k : Nat} {pre : List (Addr × Obj) → Prop} {Out : List (Addr × Obj) → Value → List Value → List (Addr × Obj) → Prop} (C : Chg d f vs kw Lh its k pre Out)
    {w : World} {mean : ExcName → Option Value} {mg mb : Str → Option Value} {dp un : Nat} {gd : Option (List Code)} {cn : Str} {cs : Scope} {a : Addr} {ccd : Value} {cl : List (Str × Addr)} {outer : List Env} {A₀ : Around} {base h₀ : Heap} {L : Addr} {m : Str → Option Value} {rest news : List (Addr × Obj)} {s : Shared}
    {Q E : Value → Shared → Prop}
    (B : Below A₀ base outer h₀) (F : Fr h₀ L s.heap m) (X : (hd.heap_39 w.params).In h₀) (N : News h₀ L s.heap news) (T : Top hd.view_39 (looseW hd.view_39 [Str.ofString "_name_disallowed_re", Str.ofString "_value_disallowed_re"]) mean mg mb h₀)
    (hk : cs.kind = .function) (hn : ∀ p ∈ (Lh, listOf its.toArray k) :: rest, p ∈ news) (hp : pre rest) (hL : ∀ p ∈ rest, p.1 ≠ Lh) (hd : dp + d < recursionLimit) (hu : un + 8 * d < cLine)
    (ret : ∀ r h' tk' its' k' ext, Out rest r its' ext → Fr h₀ L h' m → News h₀ L h' ((Lh, listOf its'.toArray k') :: (ext ++ rest)) → (∀ p ∈ ext, p.1 ≠ Lh ∧ ∀ q ∈ rest, q.1 ≠ p.1) → Q r { s with heap := h', toks := tk' }) :
    wpAny (model PySem.Challenge.rw_il0203_01.row.prog w) (ktrTop dp un gd cn cs L a ccd cl outer) (call (.ref f) vs kw) Q E s :=
  C w mean mg mb dp un gd cn cs a ccd cl outer A₀ base h₀ L m rest s Q E B F X (fun p hp => N p (hn p hp)) T hk hp hL hd hu ret

local macro_rules | `(tactic| walk_at "call ref") => `(tactic| (k_here; k_dflt (refine' Pure.use (conv_name _ _ _) ?k1 ?k2 ?k3 ?k4 ?k5 ?k6 ?k7 ?k8 ?k9 ?_; walk_at "mine:sides"; (case k7 => walk_at "mine:ok")); walk_at "mine:after"))
local macro_rules | `(tactic| walk_at "call ref") => `(tactic| (k_here; k_dflt (refine' Pure.use (conv_val _ _ _) ?k1 ?k2 ?k3 ?k4 ?k5 ?k6 ?k7 ?k8 ?k9 ?_; walk_at "mine:sides"; (case k7 => walk_at "mine:ok")); walk_at "mine:after"))
local macro_rules | `(tactic| walk_at "mine:ok") => `(tactic| first | assumption | exact ok_one (by refine ⟨?_, ?_, ?_⟩ <;> omega))

theorem news_rot {h₀ h : Heap} {L : Addr} {a b : Addr × Obj} {r : List (Addr × Obj)} (N : News h₀ L h (b :: a :: r)) : News h₀ L h (a :: ([b] ++ r)) := fun p hp => N p (by
  rcases List.mem_cons.mp hp with rfl | hp
  · exact List.mem_cons_of_mem _ List.mem_cons_self
  · rcases List.mem_append.mp hp with hp | hp
    · rw [List.mem_singleton.mp hp]; exact List.mem_cons_self
    · exact List.mem_cons_of_mem _ (List.mem_cons_of_mem _ hp))
section
variable {M : Model} {A : Around} {E : Value → Shared → Prop} {s : Shared} {K : Frag} {x C L f : Addr} {h₀ : Heap} {m : Str → Option Value} {ox : Obj} {od : Option Obj}
theorem delItem_own {v : Value} {Q : Unit → Shared → Prop} (F : Fr h₀ L s.heap m) (X₀ : K.In h₀) (I : InstAt s.heap x ox C od) (hq : noSeq K C = true) (hs : findIn K (.ref C) "__delitem__" = some (some (.ref f))) (hf : isFn K (.ref f) = true)
    (h : wpAny M A (call (.ref f) [.ref x, v]) (fun _ s' => Q () s') E s) : wpAny M A (delItem (.ref x) v) Q E s := by
  have X := X₀.keeps F.keep
  unfold delItem sequenceKey
  refine wpAny_holding (wpAny_bind (wpAny_bind (I.type.here ?_)))
  refine wpAny_bind ((anyM_none X hq).here ?_)
  rw [if_pos (show (!false) = true from rfl)]
  exact wpAny_pure (wpAny_bind (special_fn X I hs (beq_iff_eq.mp hf) (wpAny_mono h (fun _ _ z => wpAny_pure z) fun _ _ z => z)))
end
local macro_rules | `(tactic| walk_at "delItem ref") => `(tactic| (k_here; k_dflt (refine' delItem_own ?k1 ?k2 ?k3 ?k4 ?k5 ?k6 ?_; (case k1 => k_asm); (case k2 => k_asm); (case k3 => k_inst); (case k5 => k_is); (case k6 => k_is); (case k4 => k_is); k_whole)))
set_option maxHeartbeats 4000000 in
theorem set_ok (S d Lh : Addr) (hh : Int) (th : Tok) (n k c : Nat) (t u : Tok) (x : Str) (vs : List Value) (tab : List (Nat × Str)) (tups : List (Addr × Obj)) :
    Chg 10 84 [.ref S, .str ⟨#[c]⟩ t, .str x u] [] Lh vs k (fun news => (S, instObj 171 d) ∈ news ∧ (d, dictOf [⟨hh, .str (Str.ofString "_headers") th, .ref Lh⟩] n) ∈ news ∧ TabIn tups vs tab ∧ (∀ p ∈ tups, p ∈ news) ∧ tab.length ≤ 1000 ∧ (∀ p ∈ tab, 32 ≤ p.1 ∧ p.1 < 127) ∧ 32 ≤ c ∧ c < 127 ∧ ∀ z ∈ x.cps, okSign z)
      (fun news r vs' ext => r = .none ∧ TabIn (ext ++ tups) vs' ((tab.filter fun p => low p.1 ≠ low c) ++ [(c, x)])) := by
  (( unfold Chg; k_fill; intro w mean mg mb dp un gd cn cs a ccd cl outer A₀ base h₀ L m rest s Q E B F X N T hk hp hL hd' hu hret))
  obtain ⟨m1, m2, hT, hsub, hlen, hK, hc1, hc2, hx⟩ := hp
  have hvl := hT.length
  refine wpAny_call ?_
  (k_dflt (first | (refine' code_def ?k1 ?k2 ?k3 ?k4 ?k5 ?kA ?kF ?kK ?k6 ?k7 ?k8 ?k9 ?kB ?_ ?c2 ?c3 ?c4 ?c5; (case kA => exact rfl); (case kF => exact rfl); (case kK => first | exact rfl | assumption); (case k1 => k_asm); (case k2 => k_asm); (case k3 => k_asm); (case k4 => k_asm); (case k5 => k_asm); (case k6 => k_is); (case k7 => k_is); (case k8 => ktr_room); (case k9 => first | exact BindsTo.of_eq rfl | exact binds_K (by k_in) rfl (by k_is) rfl rfl rfl); (case c5 => decide); (case kB => exact locs rfl); (case c2 => exact rfl); (case c3 => exact rfl); (case c4 => exact rfl); k_whole; intro g' L' h' FG' F' N' B' X' T'; (try dsimp only); (try k_lift B'); (try k_fold)) | (refine' code_defC ?k1 ?k2 ?k3 ?k4 ?k5 ?kA ?kF ?kK ?k6 ?k7 ?k8 ?k9 ?kB ?kD ?_ ?c2 ?c3 ?c4; (case kA => exact rfl); (case kF => exact rfl); (case kK => first | exact rfl | assumption); (case k1 => k_asm); (case k2 => k_asm); (case k3 => k_asm); (case k4 => k_asm); (case k5 => k_asm); (case k6 => k_is); (case k7 => k_is); (case k8 => ktr_room); (case k9 => first | exact BindsTo.of_eq rfl | exact binds_K (by k_in) rfl (by k_is) rfl rfl rfl); (case kB => exact rfl); (case kD => decide +kernel); (case c2 => exact rfl); (case c3 => exact rfl); (case c4 => exact rfl); k_whole; intro g' L' h' tk' cells' FG' F' N' Y' B' X' T' l1; (try have l0 : ∀ p ∈ rest, p.1 < L' := fun p hp => l1 p (List.mem_cons_of_mem _ hp)); (try k_lt l1); k_cells Y'; (try simp only [List.cons_append, List.nil_append] at N'); (try dsimp only); (try k_lift B'); (try k_fold))))
  k_steps
  k_dflt (refine' Chg.use (del_ok S d Lh hh th n k c t vs tab tups) (rest := rest) ?k1 ?k2 ?k3 ?k4 ?k5 ?k6 (fun p hp => hp) ⟨m1, m2, hT, hsub, hlen, hK, hc1, hc2⟩ hL ?kd ?ku ?_)
  walk_at "mine:chg"
  intro r9 h9 tk9 vs9 k9 ext9 ho9 F9 N9 hx9
  obtain ⟨rfl, rfl, hT9⟩ := ho9
  rw [List.nil_append] at N9
  k_steps
  (rename Fr _ _ _ _ => F8); (rename News _ _ _ _ => N8)
  have h1 := hT9.length
  have h2 := List.length_filter_le (fun p : Nat × Str => decide (low p.1 ≠ low c)) tab
  (rename _ ∧ AllLt _ _ => l1)
  k_dflt (refine append_K F8 N8 (.tail (Nat.ne_of_gt l1.1) (.head hL)) ?_ ?_)
  rotate_left
  · simp only [List.size_toArray, sizeLine_eq]
    omega
  · intro h7 F7 N7
    clear F8 N8
    k_steps
    (rename Fr h₀ _ _ _ => F6); (rename News h₀ _ _ _ => N6)
    rw [List.push_toArray] at N6
    refine hret _ _ _ _ _ _ ⟨rfl, ?_⟩ F6 (news_rot N6) ?_
    · exact (hT9.sub fun p hp => List.mem_append_right _ hp).snoc (List.mem_append_left _ List.mem_cons_self)
    · intro p hp
      rw [List.mem_singleton.mp hp]; exact ⟨Nat.ne_of_gt l1.1, allLt_ne l1.2 (Nat.le_refl _)⟩
end Mine
end

section
open PySem PySem.W PyProof.Rows PySem.Calls PySem.Spec
set_option Elab.async false
set_option maxRecDepth 100000
namespace Mine

-- behind «refine' Pure.use C ..»: the premises
/-- a call that makes one object and hands it back -/
def Mk (d : Nat) (f : Addr) (vs : List Value) (kw : List (Str × Value)) (pre : List (Addr × Obj) → Prop) (Out : Obj → Prop) : Prop :=
  ∀ (w : World) (mean : ExcName → Option Value) (mg mb : Str → Option Value) (dp un : Nat) (gd : Option (List Code)) (cn : Str) (cs : Scope) (a : Addr) (ccd : Value) (cl : List (Str × Addr)) (outer : List Env) (A₀ : Around) (base h₀ : Heap) (L : Addr) (m : Str → Option Value) (news : List (Addr × Obj)) (s : Shared)
    (Q E : Value → Shared → Prop),
    Below A₀ base outer h₀ → Fr h₀ L s.heap m → (hd.heap_39 w.params).In h₀ → News h₀ L s.heap news → Top hd.view_39 (looseW hd.view_39 [Str.ofString "_name_disallowed_re", Str.ofString "_value_disallowed_re"]) mean mg mb h₀ → cs.kind = .function → pre news → dp + d < recursionLimit → un + 8 * d < cLine →
    (∀ R o h' tk', Out o → Fr h₀ L h' m → News h₀ L h' ((R, o) :: news) → (∀ p ∈ news, p.1 ≠ R) → Q (.ref R) { s with heap := h', toks := tk' }) →
    wpAny (model PySem.Challenge.rw_il0203_01.row.prog w) (ktrTop dp un gd cn cs L a ccd cl outer) (call (.ref f) vs kw) Q E s
theorem Mk.use {d : Nat} {f : Addr} {vs : List Value} {kw : List (Str × Value)} {pre : List (Addr × Obj) → Prop} {Out : Obj → Prop} (C : Mk d f vs kw pre Out)
    {w : World} {mean : ExcName → Option Value} {mg mb : Str → Option Value} {dp un : Nat} {gd : Option (List Code)} {cn : Str} {cs : Scope} {a : Addr} {ccd : Value} {cl : List (Str × Addr)} {outer : List Env} {A₀ : Around} {base h₀ : Heap} {L : Addr} {m : Str → Option Value} {news : List (Addr × Obj)} {s : Shared}
    {Q E : Value → Shared → Prop}
    (B : Below A₀ base outer h₀) (F : Fr h₀ L s.heap m) (X : (hd.heap_39 w.params).In h₀) (N : News h₀ L s.heap news) (T : Top hd.view_39 (looseW hd.view_39 [Str.ofString "_name_disallowed_re", Str.ofString "_value_disallowed_re"]) mean mg mb h₀)
    (hk : cs.kind = .function) (hp : pre news) (hd : dp + d < recursionLimit) (hu : un + 8 * d < cLine)
    (ret : ∀ R o h' tk', Out o → Fr h₀ L h' m → News h₀ L h' ((R, o) :: news) → (∀ p ∈ news, p.1 ≠ R) → Q (.ref R) { s with heap := h', toks := tk' }) :
    wpAny (model PySem.Challenge.rw_il0203_01.row.prog w) (ktrTop dp un gd cn cs L a ccd cl outer) (call (.ref f) vs kw) Q E s :=
  C w mean mg mb dp un gd cn cs a ccd cl outer A₀ base h₀ L m news s Q E B F X N T hk hp hd hu ret

local macro_rules | `(tactic| walk_at "eval ListComp") => `(tactic| (k_here; k_dflt (refine LCp.ListComp_P (F₀ := by k_asm) (by with_unfolding_all rfl) (by decide) (by rfl) (by decide) (by rfl) (by rfl) (by decide) ?_)))

/-- the texts of a list of pairs, as values -/
inductive TextsAre : List Value → List (Nat × Str) → Prop
  | nil : TextsAre [] []
  | cons {k : Nat} {x : Str} {u : Tok} {vs : List Value} {tab : List (Nat × Str)} : TextsAre vs tab → TextsAre (.str x u :: vs) ((k, x) :: tab)

theorem TextsAre.snoc {vs : List Value} {tab : List (Nat × Str)} (h : TextsAre vs tab) {k : Nat} {x : Str} {u : Tok} : TextsAre (vs ++ [.str x u]) (tab ++ [(k, x)]) := by
  induction h with
  | nil => exact .cons .nil
  | cons _ ih => exact .cons ih
theorem TextsAre.get {vs : List Value} {tab : List (Nat × Str)} (h : TextsAre vs tab) : ∀ {i k : Nat} {x : Str}, tab[i]? = some (k, x) → ∃ u, vs[i]? = some (.str x u) := by
  induction h with
  | nil => intro i k x h; simp at h
  | @cons k' x' u' vs' tab' _ ih =>
    intro i k x h
    cases i with
    | zero =>
      simp only [List.getElem?_cons_zero, Option.some.injEq, Prod.mk.injEq] at h
      exact ⟨u', by rw [h.2]; rfl⟩
    | succ i =>
      simp only [List.getElem?_cons_succ] at h ⊢
      exact ih h
theorem TextsAre.length {vs : List Value} {tab : List (Nat × Str)} (h : TextsAre vs tab) : vs.length = tab.length := by
  induction h with
  | nil => rfl
  | cons _ ih => simp [ih]
theorem off1_ne {D : Addr} : ∀ {l : List (Addr × Obj)}, LCg.Off1 D l → ∀ p ∈ l, p.1 ≠ D := by
  intro l h
  induction l with
  | nil => intro p hp; exact absurd hp (List.not_mem_nil)
  | cons q r ih =>
    intro p hp
    rcases List.mem_cons.mp hp with e | hp
    · rw [e]; exact h.1
    · exact ih h.2 p hp
set_option maxHeartbeats 4000000 in
theorem values_ok (S d Lh : Addr) (hh : Int) (th : Tok) (n k : Nat) (vs : List Value) (tab : List (Nat × Str)) :
    Mk 4 128 [.ref S] [] (fun news => (S, instObj 171 d) ∈ news ∧ (d, dictOf [⟨hh, .str (Str.ofString "_headers") th, .ref Lh⟩] n) ∈ news ∧ (Lh, listOf vs.toArray k) ∈ news ∧ TabIn news vs tab ∧ tab.length ≤ 1000)
      (fun o => ∃ ys k', o = listOf ys.toArray k' ∧ TextsAre ys tab) := by
  (( unfold Mk; k_fill; intro w mean mg mb dp un gd cn cs a ccd cl outer A₀ base h₀ L m news s Q E B F X N T hk hp hd' hu hret))
  obtain ⟨m1, m2, m3, hT, hlen⟩ := hp
  have hvl := hT.length
  refine wpAny_call ?_
  (k_dflt (first | (refine' code_def ?k1 ?k2 ?k3 ?k4 ?k5 ?kA ?kF ?kK ?k6 ?k7 ?k8 ?k9 ?kB ?_ ?c2 ?c3 ?c4 ?c5; (case kA => exact rfl); (case kF => exact rfl); (case kK => first | exact rfl | assumption); (case k1 => k_asm); (case k2 => k_asm); (case k3 => k_asm); (case k4 => k_asm); (case k5 => k_asm); (case k6 => k_is); (case k7 => k_is); (case k8 => ktr_room); (case k9 => first | exact BindsTo.of_eq rfl | exact binds_K (by k_in) rfl (by k_is) rfl rfl rfl); (case c5 => decide); (case kB => exact locs rfl); (case c2 => exact rfl); (case c3 => exact rfl); (case c4 => exact rfl); k_whole; intro g' L' h' FG' F' N' B' X' T'; (try dsimp only); (try k_lift B'); (try k_fold)) | (refine' code_defC ?k1 ?k2 ?k3 ?k4 ?k5 ?kA ?kF ?kK ?k6 ?k7 ?k8 ?k9 ?kB ?kD ?_ ?c2 ?c3 ?c4; (case kA => exact rfl); (case kF => exact rfl); (case kK => first | exact rfl | assumption); (case k1 => k_asm); (case k2 => k_asm); (case k3 => k_asm); (case k4 => k_asm); (case k5 => k_asm); (case k6 => k_is); (case k7 => k_is); (case k8 => ktr_room); (case k9 => first | exact BindsTo.of_eq rfl | exact binds_K (by k_in) rfl (by k_is) rfl rfl rfl); (case kB => exact rfl); (case kD => decide +kernel); (case c2 => exact rfl); (case c3 => exact rfl); (case c4 => exact rfl); k_whole; intro g' L' h' tk' cells' FG' F' N' Y' B' X' T' l1; (try have l0 : ∀ p ∈ rest, p.1 < L' := fun p hp => l1 p (List.mem_cons_of_mem _ hp)); (try k_lt l1); k_cells Y'; (try simp only [List.cons_append, List.nil_append] at N'); (try dsimp only); (try k_lift B'); (try k_fold))))
  k_steps
  k_dflt (refine LCp.SrcLP.ledger (by rfl) (by k_asm) (by k_asm) m3 (by simp only [List.size_toArray, sizeLine_eq]; omega) ?_)
  intro gg
  refine restP_by (vs := vs) (fun i ys => TextsAre ys (tab.take i)) (fun i v h => by simpa using h) ?_ ?_ _ 0 [] (by simp) .nil
  · intro i v hv
    obtain ⟨a', k', x', t', u', n', rfl, hv', hm'⟩ := hT.get hv
    refine ⟨a', _, _, _, _, rfl, hm', rfl, rfl, ?_⟩
    intro ys I oI C oC D m₂ h9 tk9 E' hR hC hx hx₂ F9 N9 off ne
    k_steps
    refine LCg.CompEnd.intro F9 N9 _ (fun p hp => hp) off (.inr ⟨_, m3, rfl, _, rfl⟩) ⟨rfl, ?_⟩
    rw [List.take_add_one, hv']
    exact hR.snoc
  · intro ys hR
    intro D h9 tk9 F9 N9 off
    k_steps
    refine hret _ _ _ _ ⟨ys, _, rfl, ?_⟩ (by k_asm) (by k_asm) (off1_ne off)
    rw [hvl, List.take_length] at hR; exact hR

theorem pick_all (vs : List Value) : slicePick vs.toArray none none none = vs.toArray := by
  have e : sliceBounds none none none vs.toArray.size = (((0 : Nat) : Int), ((vs.toArray.size : Nat) : Int), 1) := rfl
  rw [kmk_pick_nat _ e]
  simp

set_option maxHeartbeats 4000000 in
theorem items_ok (S d Lh : Addr) (hh : Int) (th : Tok) (n k : Nat) (vs : List Value) :
    Mk 4 135 [.ref S] [] (fun news => (S, instObj 171 d) ∈ news ∧ (d, dictOf [⟨hh, .str (Str.ofString "_headers") th, .ref Lh⟩] n) ∈ news ∧ (Lh, listOf vs.toArray k) ∈ news ∧ vs.length ≤ 1000)
      (fun o => ∃ k', o = listOf vs.toArray k') := by
  (( unfold Mk; k_fill; intro w mean mg mb dp un gd cn cs a ccd cl outer A₀ base h₀ L m news s Q E B F X N T hk hp hd' hu hret))
  obtain ⟨m1, m2, m3, hlen⟩ := hp
  refine wpAny_call ?_
  (k_dflt (first | (refine' code_def ?k1 ?k2 ?k3 ?k4 ?k5 ?kA ?kF ?kK ?k6 ?k7 ?k8 ?k9 ?kB ?_ ?c2 ?c3 ?c4 ?c5; (case kA => exact rfl); (case kF => exact rfl); (case kK => first | exact rfl | assumption); (case k1 => k_asm); (case k2 => k_asm); (case k3 => k_asm); (case k4 => k_asm); (case k5 => k_asm); (case k6 => k_is); (case k7 => k_is); (case k8 => ktr_room); (case k9 => first | exact BindsTo.of_eq rfl | exact binds_K (by k_in) rfl (by k_is) rfl rfl rfl); (case c5 => decide); (case kB => exact locs rfl); (case c2 => exact rfl); (case c3 => exact rfl); (case c4 => exact rfl); k_whole; intro g' L' h' FG' F' N' B' X' T'; (try dsimp only); (try k_lift B'); (try k_fold)) | (refine' code_defC ?k1 ?k2 ?k3 ?k4 ?k5 ?kA ?kF ?kK ?k6 ?k7 ?k8 ?k9 ?kB ?kD ?_ ?c2 ?c3 ?c4; (case kA => exact rfl); (case kF => exact rfl); (case kK => first | exact rfl | assumption); (case k1 => k_asm); (case k2 => k_asm); (case k3 => k_asm); (case k4 => k_asm); (case k5 => k_asm); (case k6 => k_is); (case k7 => k_is); (case k8 => ktr_room); (case k9 => first | exact BindsTo.of_eq rfl | exact binds_K (by k_in) rfl (by k_is) rfl rfl rfl); (case kB => exact rfl); (case kD => decide +kernel); (case c2 => exact rfl); (case c3 => exact rfl); (case c4 => exact rfl); k_whole; intro g' L' h' tk' cells' FG' F' N' Y' B' X' T' l1; (try have l0 : ∀ p ∈ rest, p.1 < L' := fun p hp => l1 p (List.mem_cons_of_mem _ hp)); (try k_lt l1); k_cells Y'; (try simp only [List.cons_append, List.nil_append] at N'); (try dsimp only); (try k_lift B'); (try k_fold))))
  k_steps
  (rename Fr _ _ _ _ => F9); (rename News _ _ _ _ => N9)
  k_dflt (refine kmk_slice (its := vs.toArray) F9 N9 ⟨_, (N9 _ m3).1, rfl, _, rfl⟩ .none .none ?_ (by with_unfolding_all rfl) (by intro _; rfl) (by simp only [List.size_toArray, sizeLine_eq]; omega))
  intro D h8 F8 N8 l1
  rw [pick_all] at N8
  clear F9 N9
  k_steps
  refine hret _ _ _ _ ⟨_, rfl⟩ (by k_asm) (by k_asm) (fun p hp => Nat.ne_of_lt (l1 p hp))
end Mine
end

section
open PySem PySem.W PyProof.Rows PySem.Calls PySem.Spec
set_option Elab.async false
set_option maxRecDepth 100000
namespace Mine
abbrev Tab := List (Nat × Str)
def hdS (x : Str) : Nat := x.cps.getD 0 0
def altS (x : Str) : Str := ⟨x.cps.map (· ||| 128)⟩
def ascS (x : Str) : Str := ⟨x.cps.map (· &&& 127)⟩
def setT (tab : Tab) (c : Nat) (x : Str) : Tab := (tab.filter fun p => low p.1 ≠ low c) ++ [(c, x)]
def delT (tab : Tab) (c : Nat) : Tab := tab.filter fun p => low p.1 ≠ low c
def step1 (st : Tab × Nat) (c : Nat) : Tab × Nat :=
  if isUp c || isLo c then (match look st.1 c with | some x => if 127 < hdS x then st else (setT st.1 c (altS x), st.2 + 1) | none => st) else st
def textAt (tab : Tab) (j : Nat) : Str := match tab[j]? with | some p => p.2 | none => Str.empty
def bfs : Nat → Tab × Nat → Nat → Str → Tab
  | 0, st, _, _ => st.1
  | n + 1, st, dn, wt =>
    let st' := wt.cps.toList.foldl step1 st
    if dn = st'.2 then st'.1 else bfs n st' (dn + 1) (ascS (textAt st'.1 (st'.1.length - (st'.2 - dn))))
def finStep (tab : Tab) (p : Nat × Str) : Tab := if 127 < hdS p.2 then setT tab p.1 (ascS p.2) else delT tab p.1
def collectP (tab : Tab) (roots : Str) : Tab := let t := bfs 7 (tab, 0) 0 roots; t.foldl finStep t

def okC (a : Nat) : Prop := a < 256 ∧ 32 ≤ a &&& 127 ∧ a &&& 127 < 127
def metaN (tab : Tab) : Nat := (tab.filter fun p => decide (127 < hdS p.2)).length
structure Good (tab : Tab) : Prop where
  len : tab.length ≤ 500
  names : ∀ p ∈ tab, 32 ≤ p.1 ∧ p.1 < 127
  texts : ∀ p ∈ tab, ∃ a b, p.2 = ⟨#[a, b]⟩ ∧ okC a ∧ okC b
  once : (tab.map fun p => low p.1).Nodup
end Mine
end

section
open PySem PySem.W PyProof.Rows PySem.Calls PySem.Spec
set_option Elab.async false
set_option maxRecDepth 100000
namespace Mine
theorem hdS_two (a b : Nat) : hdS ⟨#[a, b]⟩ = a := rfl
theorem altS_two (a b : Nat) : altS ⟨#[a, b]⟩ = ⟨#[a ||| 128, b ||| 128]⟩ := by simp [altS]
theorem ascS_two (a b : Nat) : ascS ⟨#[a, b]⟩ = ⟨#[a &&& 127, b &&& 127]⟩ := by simp [ascS]
theorem okC_alt {a : Nat} (h : okC a) : okC (a ||| 128) := by
  have : ∀ k : Fin 256, 32 ≤ k.val &&& 127 → k.val &&& 127 < 127 → (k.val ||| 128) < 256 ∧ 32 ≤ (k.val ||| 128) &&& 127 ∧ (k.val ||| 128) &&& 127 < 127 := by decide +kernel
  exact this ⟨a, h.1⟩ h.2.1 h.2.2
theorem okC_asc {a : Nat} (h : okC a) : okC (a &&& 127) := by
  have : ∀ k : Fin 256, 32 ≤ k.val &&& 127 → k.val &&& 127 < 127 → (k.val &&& 127) < 256 ∧ 32 ≤ (k.val &&& 127) &&& 127 ∧ (k.val &&& 127) &&& 127 < 127 := by decide +kernel
  exact this ⟨a, h.1⟩ h.2.1 h.2.2
theorem asc_name {a : Nat} (h : okC a) : 32 ≤ a &&& 127 ∧ a &&& 127 < 127 := h.2
theorem alt_meta {a : Nat} (h : okC a) : 127 < a ||| 128 := by
  have : ∀ k : Fin 256, 127 < (k.val ||| 128) := by decide +kernel
  exact this ⟨a, h.1⟩
theorem asc_meta {a : Nat} : ¬ 127 < a &&& 127 := by have := and_lt a; omega
theorem okC_sign {a : Nat} (h : okC a) : okSign a := by
  obtain ⟨h1, h2, h3⟩ := h
  have h4 : a &&& 127 ≤ a := Nat.and_le_left
  refine ⟨by omega, ?_, h1⟩
  intro e; subst e
  have : (127 : Nat) &&& 127 = 127 := by decide
  omega
theorem ok_two {a b : Nat} (ha : okSign a) (hb : okSign b) : ∀ z ∈ (⟨#[a, b]⟩ : Str).cps, okSign z := by
  intro z hz
  have : z = a ∨ z = b := by simpa using hz
  rcases this with e | e
  · rw [e]; exact ha
  · rw [e]; exact hb

theorem look_mem : ∀ {tab : Tab} {c : Nat} {x : Str}, look tab c = some x → ∃ k, (k, x) ∈ tab ∧ low k = low c
  | [], _, _, h => by cases h
  | (k, y) :: r, c, x, h => by
    unfold look at h
    by_cases e : low k = low c
    · rw [if_pos e] at h
      cases h
      exact ⟨k, List.mem_cons_self, e⟩
    · rw [if_neg e] at h
      obtain ⟨k', hm, he⟩ := look_mem h
      exact ⟨k', List.mem_cons_of_mem _ hm, he⟩
theorem look_only : ∀ {tab : Tab} {c : Nat} {x : Str}, (tab.map fun p => low p.1).Nodup → look tab c = some x → ∀ p ∈ tab, low p.1 = low c → p.2 = x
  | [], _, _, _, h, _, _, _ => by cases h
  | (k, y) :: r, c, x, hn, h, p, hp, he => by
    unfold look at h
    rw [List.map_cons, List.nodup_cons] at hn
    by_cases e : low k = low c
    · rw [if_pos e] at h
      cases h
      rcases List.mem_cons.mp hp with rfl | hp
      · rfl
      · exact absurd (List.mem_map.mpr ⟨p, hp, by rw [he, ← e]⟩) hn.1
    · rw [if_neg e] at h
      rcases List.mem_cons.mp hp with rfl | hp
      · exact absurd he e
      · exact look_only hn.2 h p hp he

theorem Good.sub {tab : Tab} (h : Good tab) (q : Nat × Str → Bool) : Good (tab.filter q) :=
  ⟨Nat.le_trans (List.length_filter_le _ _) h.len, fun p hp => h.names p (List.mem_filter.mp hp).1, fun p hp => h.texts p (List.mem_filter.mp hp).1,
    (List.Sublist.map (fun p : Nat × Str => low p.1) (List.filter_sublist (p := q) (l := tab))).nodup h.once⟩
theorem good_set {tab : Tab} {c a b : Nat} {x : Str} (h : Good tab) (hl : look tab c = some x) (h1 : 32 ≤ c) (h2 : c < 127) (ha : okC a) (hb : okC b) : Good (setT tab c ⟨#[a, b]⟩) := by
  have hs := h.sub fun p => decide (low p.1 ≠ low c)
  obtain ⟨k, hm, he⟩ := look_mem hl
  have hlt : (tab.filter fun p => decide (low p.1 ≠ low c)).length < tab.length := by
    rw [List.length_filter_lt_length_iff_exists]
    exact ⟨(k, x), hm, by simp [he]⟩
  refine ⟨?_, ?_, ?_, ?_⟩
  · have := h.len
    simp only [setT, List.length_append, List.length_singleton]
    omega
  · intro p hp
    rcases List.mem_append.mp hp with hp | hp
    · exact hs.names p hp
    · rw [List.mem_singleton.mp hp]; exact ⟨h1, h2⟩
  · intro p hp
    rcases List.mem_append.mp hp with hp | hp
    · exact hs.texts p hp
    · rw [List.mem_singleton.mp hp]; exact ⟨a, b, rfl, ha, hb⟩
  · show ((_ ++ [(c, _)]).map _).Nodup
    rw [List.map_append, List.nodup_append]
    refine ⟨hs.once, by simp, ?_⟩
    intro y hy z hz
    obtain ⟨p, hp, rfl⟩ := List.mem_map.mp hy
    have hz' : z = low c := by simpa using hz
    rw [hz']
    have := (List.mem_filter.mp hp).2
    simpa using this
theorem set_length {tab : Tab} {c : Nat} {x y : Str} (h : Good tab) (hl : look tab c = some x) : (setT tab c y).length = tab.length := by
  have hn := h.once
  clear h
  induction tab with
  | nil => cases hl
  | cons p r ih =>
    obtain ⟨k, z⟩ := p
    rw [List.map_cons, List.nodup_cons] at hn
    unfold look at hl
    by_cases e : low k = low c
    · have hr : (r.filter fun p => decide (low p.1 ≠ low c)) = r := by
        rw [List.filter_eq_self]
        intro p hp
        have : low p.1 ≠ low c := fun q => hn.1 (List.mem_map.mpr ⟨p, hp, by rw [q, ← e]⟩)
        simpa using this
      simp only [setT, List.length_append, List.length_singleton, List.filter_cons, e, ne_eq, not_true_eq_false, decide_false, Bool.false_eq_true, if_false]
      simp only [ne_eq] at hr
      rw [hr]; rfl
    · rw [if_neg e] at hl
      have := ih hl hn.2
      simp only [setT, List.length_append, List.length_singleton, List.filter_cons, e, ne_eq, not_false_eq_true, decide_true, if_true, List.length_cons] at this ⊢
      omega
theorem metaN_set {tab : Tab} {c a b : Nat} {x : Str} (h : Good tab) (hl : look tab c = some x) (hx : ¬ 127 < hdS x) (ha : 127 < a) : metaN (setT tab c ⟨#[a, b]⟩) = metaN tab + 1 := by
  have only := look_only h.once hl
  have e : ((tab.filter fun p => decide (low p.1 ≠ low c)).filter fun p => decide (127 < hdS p.2)) = tab.filter fun p => decide (127 < hdS p.2) := by
    rw [List.filter_filter]
    refine List.filter_congr fun p hp => ?_
    by_cases q : low p.1 = low c
    · have := only p hp q
      simp [this, hx]
    · simp [q]
  unfold metaN setT
  rw [List.filter_append, List.length_append, e]
  simp [hdS, ha]
theorem metaN_le (tab : Tab) : metaN tab ≤ tab.length := List.length_filter_le _ _

theorem step_out {tab : Tab} {mk c : Nat} (h : (isUp c || isLo c) = false) : step1 (tab, mk) c = (tab, mk) := by
  unfold step1; rw [h]; rfl
theorem step_none {tab : Tab} {mk c : Nat} (h : (isUp c || isLo c) = true) (hl : look tab c = none) : step1 (tab, mk) c = (tab, mk) := by
  unfold step1; rw [h]; simp only [if_true, hl]
theorem step_had {tab : Tab} {mk c : Nat} {x : Str} (h : (isUp c || isLo c) = true) (hl : look tab c = some x) (hx : 127 < hdS x) : step1 (tab, mk) c = (tab, mk) := by
  unfold step1; rw [h]; simp only [if_true, hl, hx]
theorem step_new {tab : Tab} {mk c : Nat} {x : Str} (h : (isUp c || isLo c) = true) (hl : look tab c = some x) (hx : ¬ 127 < hdS x) : step1 (tab, mk) c = (setT tab c (altS x), mk + 1) := by
  unfold step1; rw [h]; simp only [if_true, hl, hx, if_false]
theorem take_fold {σ : Type} {f : σ → Nat → σ} {l : List Nat} {j c : Nat} {z : σ} (h : l[j]? = some c) : (l.take (j + 1)).foldl f z = f ((l.take j).foldl f z) c := by
  rw [List.take_add_one, h, List.foldl_append]; rfl
theorem join2 (x y : Nat) : Txt.join (Str.ofString "") [⟨#[x]⟩, ⟨#[y]⟩] = ⟨#[x, y]⟩ := by
  have : Str.ofString "" = ⟨#[]⟩ := by decide +kernel
  rw [this]; rfl
theorem join2_ok (x y : Nat) : JoinOk (Str.ofString "") [⟨#[x]⟩, ⟨#[y]⟩] = true := by
  have : Str.ofString "" = ⟨#[]⟩ := by decide +kernel
  rw [this]; rfl

theorem bfs_brk {n dn mk2 : Nat} {st : Tab × Nat} {tab2 : Tab} {wt : Str} (hf : (tab2, mk2) = wt.cps.toList.foldl step1 st) (h : dn = mk2) : bfs (n + 1) st dn wt = tab2 := by
  show (if dn = (wt.cps.toList.foldl step1 st).2 then (wt.cps.toList.foldl step1 st).1 else _) = _
  rw [← hf, if_pos h]
theorem bfs_go {n dn mk2 : Nat} {st : Tab × Nat} {tab2 : Tab} {wt : Str} (hf : (tab2, mk2) = wt.cps.toList.foldl step1 st) (h : dn ≠ mk2) : bfs (n + 1) st dn wt = bfs n (tab2, mk2) (dn + 1) (ascS (textAt tab2 (tab2.length - (mk2 - dn)))) := by
  show (if dn = (wt.cps.toList.foldl step1 st).2 then (wt.cps.toList.foldl step1 st).1 else bfs n (wt.cps.toList.foldl step1 st) (dn + 1) (ascS (textAt (wt.cps.toList.foldl step1 st).1 ((wt.cps.toList.foldl step1 st).1.length - ((wt.cps.toList.foldl step1 st).2 - dn))))) = _
  rw [← hf, if_neg h]
theorem metaN_zero {tab : Tab} (h : ∀ p ∈ tab, hdS p.2 < 128) : metaN tab = 0 := by
  unfold metaN
  rw [List.length_eq_zero_iff, List.filter_eq_nil_iff]
  intro p hp
  have := h p hp
  simp; omega

/-- what the last loop keeps: names are signs of a name, texts are two signs, few lines -/
structure Fine (tab : Tab) (n : Nat) : Prop where
  len : tab.length ≤ n
  names : ∀ p ∈ tab, 32 ≤ p.1 ∧ p.1 < 127
theorem Good.fine {tab : Tab} (h : Good tab) : Fine tab 500 := ⟨h.len, h.names⟩
theorem Fine.set {tab : Tab} {n c : Nat} {x : Str} (h : Fine tab n) (h1 : 32 ≤ c) (h2 : c < 127) : Fine (setT tab c x) (n + 1) := by
  refine ⟨?_, ?_⟩
  · have h3 := List.length_filter_le (fun p : Nat × Str => decide (low p.1 ≠ low c)) tab
    have h4 := h.len
    simp only [setT, List.length_append, List.length_singleton]
    omega
  · intro p hp
    rcases List.mem_append.mp hp with hp | hp
    · exact h.names p (List.mem_filter.mp hp).1
    · rw [List.mem_singleton.mp hp]; exact ⟨h1, h2⟩
theorem Fine.del {tab : Tab} {n c : Nat} (h : Fine tab n) : Fine (delT tab c) (n + 1) :=
  ⟨Nat.le_trans (List.length_filter_le _ _) (Nat.le_succ_of_le h.len), fun p hp => h.names p (List.mem_filter.mp hp).1⟩
theorem take_foldT {σ : Type} {f : σ → Nat × Str → σ} {l : List (Nat × Str)} {j : Nat} {c : Nat × Str} {z : σ} (h : l[j]? = some c) : (l.take (j + 1)).foldl f z = f ((l.take j).foldl f z) c := by
  rw [List.take_add_one, h, List.foldl_append]; rfl
theorem fin_set {tab : Tab} {c a b : Nat} (h : 127 < a) : finStep tab (c, ⟨#[a, b]⟩) = setT tab c ⟨#[a &&& 127, b &&& 127]⟩ := by
  unfold finStep
  rw [if_pos (show 127 < hdS (⟨#[a, b]⟩ : Str) from h), ascS_two]
theorem fin_del {tab : Tab} {c a b : Nat} (h : ¬ 127 < a) : finStep tab (c, ⟨#[a, b]⟩) = delT tab c := by
  unfold finStep
  rw [if_neg (show ¬ 127 < hdS (⟨#[a, b]⟩ : Str) from h)]
end Mine
end

section
open PySem PySem.W PyProof.Rows PySem.Calls PySem.Spec
set_option Elab.async false
set_option maxRecDepth 100000
namespace Mine

-- behind «refine' Pure.use C ..»: the premises
local macro_rules | `(tactic| walk_at "call ref") => `(tactic| (k_here; k_dflt (refine' Pure.use (isalpha_ok _ _) ?k1 ?k2 ?k3 ?k4 ?k5 ?k6 ?k7 ?k8 ?k9 ?_; walk_at "mine:sides"; (case k7 => trivial)); walk_at "mine:after"))
local macro_rules | `(tactic| walk_at "call ref") => `(tactic| (k_here; k_dflt (refine' Pure.use (ismeta_ok _ _) ?k1 ?k2 ?k3 ?k4 ?k5 ?k6 ?k7 ?k8 ?k9 ?_; walk_at "mine:sides"; (case k7 => trivial)); walk_at "mine:after"))
local macro_rules | `(tactic| walk_at "call ref") => `(tactic| (k_here; k_dflt (refine' Pure.use (alt_ok _ _) ?k1 ?k2 ?k3 ?k4 ?k5 ?k6 ?k7 ?k8 ?k9 ?_; walk_at "mine:sides"; (case k7 => omega)); walk_at "mine:after"))
local macro_rules | `(tactic| walk_at "call ref") => `(tactic| (k_here; k_dflt (refine' Pure.use (ascii_ok _ _) ?k1 ?k2 ?k3 ?k4 ?k5 ?k6 ?k7 ?k8 ?k9 ?_; walk_at "mine:sides"; (case k7 => omega)); walk_at "mine:after"))
local macro_rules | `(tactic| walk_at "exec For") => `(tactic| (k_here; (with_reducible rename Fr _ _ _ _ => kF); k_dflt (refine for_turnsF kF ?_)))
local macro_rules | `(tactic| walk_at "exec For Name Call cons nil") => `(tactic| (k_here; (with_reducible rename Fr _ _ _ _ => kF); k_dflt (refine for_turnsF kF ?_)))
local macro_rules | `(tactic| walk_at "exec For Name Name cons nil") => `(tactic| (k_here; (with_reducible rename Fr _ _ _ _ => kF); k_dflt (refine for_turnsF kF ?_)))
local macro_rules | `(tactic| walk_at "exec For Tuple Call cons nil") => `(tactic| (k_here; (with_reducible rename Fr _ _ _ _ => kF); k_dflt (refine for_turnsF kF ?_)))

local macro_rules | `(tactic| walk_at "delItem ref") => `(tactic| (k_here; k_dflt (refine' delItem_own ?k1 ?k2 ?k3 ?k4 ?k5 ?k6 ?_; (case k1 => k_asm); (case k2 => k_asm); (case k3 => k_inst); (case k5 => k_is); (case k6 => k_is); (case k4 => k_is); k_whole)))
local macro_rules | `(tactic| walk_at "eval ListComp") => `(tactic| (k_here; k_dflt (refine ListComp_str (F₀ := by k_asm) (by with_unfolding_all rfl) (by decide) (by rfl) (by decide) (by rfl) ?_)))

theorem strs_snoc {l : List (Str × Tok)} {cs : List Nat} {f : Nat → Nat} {i c : Nat} {t : Tok} (h : l.map (·.1) = (cs.take i).map fun c => (⟨#[f c]⟩ : Str)) (hc : cs[i]? = some c) :
    ∃ l', strValues l ++ [.str ⟨#[f c]⟩ t] = strValues l' ∧ l'.map (·.1) = (cs.take (i + 1)).map fun c => (⟨#[f c]⟩ : Str) := by
  refine ⟨l ++ [(⟨#[f c]⟩, t)], by simp [strValues], ?_⟩
  rw [List.take_add_one, hc, List.map_append, h]
  simp
-- the names that a turn leaves alone; the value of a name
local macro_rules | `(tactic| walk_at "mine:off") => `(tactic| (intro z hz; simp only [List.mem_cons, List.not_mem_nil, or_false, not_or] at hz; simp only [hz, if_false]))
local macro_rules | `(tactic| walk_at "mine:at") => `(tactic| first | exact rfl | (simp; done))

set_option maxHeartbeats 8000000 in
theorem collect_ok (S d Lh : Addr) (hh : Int) (th : Tok) (n k : Nat) (tr : Tok) (roots : Str) (vs : List Value) (tab : Tab) :
    Chg 16 236 [.ref S, .str roots tr] [] Lh vs k (fun news => (S, instObj 171 d) ∈ news ∧ (d, dictOf [⟨hh, .str (Str.ofString "_headers") th, .ref Lh⟩] n) ∈ news ∧ TabIn news vs tab ∧ Good tab ∧ (∀ p ∈ tab, hdS p.2 < 128) ∧ ∀ c ∈ roots.cps, 32 ≤ c ∧ c < 127)
      (fun news r vs' ext => r = .none ∧ TabIn (ext ++ news) vs' (collectP tab roots)) := by
  (( unfold Chg; k_fill; intro w mean mg mb dp un gd cn cs a ccd cl outer A₀ base h₀ L m rest s Q E B F X N T hk hp hL hd' hu hret))
  obtain ⟨m1, m2, hT, hG, hm0, hr⟩ := hp
  have hvl := hT.length
  refine wpAny_call ?_
  (k_dflt (first | (refine' code_def ?k1 ?k2 ?k3 ?k4 ?k5 ?kA ?kF ?kK ?k6 ?k7 ?k8 ?k9 ?kB ?_ ?c2 ?c3 ?c4 ?c5; (case kA => exact rfl); (case kF => exact rfl); (case kK => first | exact rfl | assumption); (case k1 => k_asm); (case k2 => k_asm); (case k3 => k_asm); (case k4 => k_asm); (case k5 => k_asm); (case k6 => k_is); (case k7 => k_is); (case k8 => ktr_room); (case k9 => first | exact BindsTo.of_eq rfl | exact binds_K (by k_in) rfl (by k_is) rfl rfl rfl); (case c5 => decide); (case kB => exact locs rfl); (case c2 => exact rfl); (case c3 => exact rfl); (case c4 => exact rfl); k_whole; intro g' L' h' FG' F' N' B' X' T'; (try dsimp only); (try k_lift B'); (try k_fold)) | (refine' code_defC ?k1 ?k2 ?k3 ?k4 ?k5 ?kA ?kF ?kK ?k6 ?k7 ?k8 ?k9 ?kB ?kD ?_ ?c2 ?c3 ?c4; (case kA => exact rfl); (case kF => exact rfl); (case kK => first | exact rfl | assumption); (case k1 => k_asm); (case k2 => k_asm); (case k3 => k_asm); (case k4 => k_asm); (case k5 => k_asm); (case k6 => k_is); (case k7 => k_is); (case k8 => ktr_room); (case k9 => first | exact BindsTo.of_eq rfl | exact binds_K (by k_in) rfl (by k_is) rfl rfl rfl); (case kB => exact rfl); (case kD => decide +kernel); (case c2 => exact rfl); (case c3 => exact rfl); (case c4 => exact rfl); k_whole; intro g' L' h' tk' cells' FG' F' N' Y' B' X' T' l1; (try have l0 : ∀ p ∈ rest, p.1 < L' := fun p hp => l1 p (List.mem_cons_of_mem _ hp)); (try k_lt l1); k_cells Y'; (try simp only [List.cons_append, List.nil_append] at N'); (try dsimp only); (try k_lift B'); (try k_fold))))
  k_steps
  (rename Fr _ _ _ _ => F1); (rename News _ _ _ _ => N1); (rename IsRange _ _ _ _ _ _ _ _ => hr1)
  have N1' : News g' L' _ ((Lh, listOf vs.toArray k) :: ([] ++ rest)) := fun p hp => N1 p (List.mem_cons_of_mem _ hp)
  clear N1
  refine turns_rangeR (n := 7) [Str.ofString "turn", Str.ofString "sign", Str.ofString "held", Str.ofString "marked", Str.ofString "done", Str.ofString "waiting"]
    (fun i u news₁ => ∃ tab' mk dn wt t1 t2 t3 vs' k' ext, news₁ = (Lh, listOf vs'.toArray k') :: (ext ++ rest) ∧ (∀ p ∈ ext, p.1 ≠ Lh ∧ ∀ q ∈ rest, q.1 ≠ p.1) ∧ TabIn (ext ++ rest) vs' tab' ∧ Good tab' ∧ mk = metaN tab' ∧ dn ≤ mk ∧
      u (Str.ofString "marked") = some (.int (mk : Nat) t1) ∧ u (Str.ofString "done") = some (.int (dn : Nat) t2) ∧ u (Str.ofString "waiting") = some (.str wt t3) ∧ (∀ c ∈ wt.cps, 32 ≤ c ∧ c < 127) ∧
      bfs (7 - i) (tab', mk) dn wt = bfs 7 (tab, 0) 0 roots)
    (fun s' => ∃ tab' vs' k' ext h tk m', s' = { s with heap := h, toks := tk } ∧ Fr g' L' h m' ∧ m' (Str.ofString "table") = some (.ref S) ∧ News g' L' h ((Lh, listOf vs'.toArray k') :: (ext ++ rest)) ∧
      (∀ p ∈ ext, p.1 ≠ Lh ∧ ∀ q ∈ rest, q.1 ≠ p.1) ∧ TabIn (ext ++ rest) vs' tab' ∧ Good tab' ∧ tab' = bfs 7 (tab, 0) 0 roots)
    rfl hr1 (by decide) (by rfl) F1 N1' ?_ ?_ rfl rfl (by decide) ?_ ?_
  · rintro s' ⟨tab', vs', k', ext, h9, tk9, m', rfl, F2, hmt, N2, hx, hT', hG', hb⟩
    clear F1 N1' hr1
    rw [name_at hmt] at F2
    have mS : (S, instObj 171 d) ∈ ext ++ rest := List.mem_append_right _ m1
    have mD : (d, dictOf [⟨hh, .str (Str.ofString "_headers") th, .ref Lh⟩] n) ∈ ext ++ rest := List.mem_append_right _ m2
    have hvl' := hT'.length
    k_steps
    k_dflt (refine' Mk.use (items_ok S d Lh hh th n k' vs') ?k1 ?k2 ?k3 ?k4 ?k5 ?k6 ?hp ?kd ?ku ?_)
    walk_at "mine:chg"
    case hp => exact ⟨by k_mem, by k_mem, by k_mem, by have := hG'.len; omega⟩
    intro R9 o9 h9 tk9 ho9 F9 N9 hR9
    obtain ⟨k9, rfl⟩ := ho9
    (try dsimp only)
    refine turns_listN (o := listOf vs'.toArray k9) (items := vs') (nn := k9) [Str.ofString "name", Str.ofString "held"]
      (fun i u news₁ => ∃ tab2 vs2 k2 ext2, news₁ = (R9, listOf vs'.toArray k9) :: (Lh, listOf vs2.toArray k2) :: (ext2 ++ (ext ++ rest)) ∧ (∀ p ∈ ext2, p.1 ≠ Lh ∧ p.1 ≠ R9 ∧ ∀ q ∈ ext ++ rest, q.1 ≠ p.1) ∧ TabIn (ext2 ++ (ext ++ rest)) vs2 tab2 ∧ Fine tab2 (500 + i) ∧ tab2 = (tab'.take i).foldl finStep tab')
      rfl F9 N9 List.mem_cons_self rfl rfl ?_ ?_ ?_ ?_
    · exact ⟨tab', vs', k', [], rfl, fun p hp => absurd hp List.not_mem_nil, hT', hG'.fine, rfl⟩
    · intro I i s' v Q' hv hI hq
      obtain ⟨a', k', x', t', u', n', rfl, _, _⟩ := hT'.get hv
      exact wpAny_letOwnedTupleGo_listiter hI hq
    · rintro i v u news₁ h8 tk8 I oI hv ⟨tab2, vs2, k2, ext2, rfl, hx2, hT2, hG2, hf⟩ hnI hIR F8 N8
      clear F9 N9
      obtain ⟨a', k', x', t', u', n', rfl, hv', hm'⟩ := hT'.get hv
      obtain ⟨a6, b6, hx6, ha6, hb6⟩ := hG'.texts _ (List.mem_of_getElem? hv')
      have hk6 := hG'.names _ (List.mem_of_getElem? hv')
      dsimp only at hx6 hk6
      subst hx6
      have hil : i < tab'.length := (List.getElem?_eq_some_iff.mp hv').1
      have hl5 := hG'.len
      have hl2 := hG2.len
      have mS2 : (S, instObj 171 d) ∈ ext2 ++ (ext ++ rest) := List.mem_append_right _ mS
      have mD2 : (d, dictOf [⟨hh, .str (Str.ofString "_headers") th, .ref Lh⟩] n) ∈ ext2 ++ (ext ++ rest) := List.mem_append_right _ mD
      have mT2 := List.mem_append_right ext2 hm'
      simp only [over] at F8
      k_dflt (refine assign_pair rfl rfl F8 N8 (List.mem_cons_of_mem _ (List.mem_cons_of_mem _ (List.mem_cons_of_mem _ (List.mem_cons_of_mem _ mT2)))) (fun h3 F3 N3 => ?_) rfl rfl)
      clear F8 N8
      have hL2 : ∀ p ∈ (I, oI) :: (R9, listOf vs'.toArray k9) :: (ext2 ++ (ext ++ rest)), p.1 ≠ Lh := by
        intro p hp
        rcases List.mem_cons.mp hp with rfl | hp
        · exact Ne.symm (hnI (Lh, _) (List.mem_cons_of_mem _ List.mem_cons_self))
        · rcases List.mem_cons.mp hp with rfl | hp
          · exact Ne.symm (hR9 (Lh, _) List.mem_cons_self)
          · rcases List.mem_append.mp hp with hp | hp
            · exact (hx2 p hp).1
            · rcases List.mem_append.mp hp with hp | hp
              · exact (hx p hp).1
              · exact hL p hp
      k_steps
      · rename_i e6
        have e6' : 127 < a6 := e6
        (rename Fr _ _ _ _ => F7); (rename News _ _ _ _ => N7)
        refine ⟨_, _, _, rfl, rfl, F7, N7, (by simp [sizeLine_eq]), ?_⟩
        rintro s₂ ⟨gg, rfl⟩
        refine restV_by (n := 2) (fun i ys => ∃ l : List (Str × Tok), ys = strValues l ∧ l.map (·.1) = ([a6, b6].take i).map fun c => (⟨#[c &&& 127]⟩ : Str)) ?_ ?_ _ 0 [] rfl ⟨[], rfl, rfl⟩
        · rintro i v ys I8 oI8 C8 oC8 D8 m8 h8 tk8 E8 hi8 ⟨c8, u8, hc8, rfl⟩ ⟨l8, rfl, hl8⟩ hC8 hx8 F8 N8 off8 ne8
          have hcs : c8 < 256 := by
            have : c8 = a6 ∨ c8 = b6 := by simpa using Array.mem_of_getElem? hc8
            rcases this with e | e
            · rw [e]; exact ha6.1
            · rw [e]; exact hb6.1
          k_steps
          exact LCg.CompEnd.intro F9 N9 _ (fun p hp => hp) off8 trivial ⟨rfl, strs_snoc hl8 (by simpa using hc8)⟩
        · rintro ys ⟨l8, rfl, hl8⟩
          intro D8 h8 tk8 F8 N8 off8
          k_steps
          refine SC.join (l := l8) ⟨_, (N8 _ List.mem_cons_self).1, rfl, _, rfl⟩ hl8 (join2_ok _ _) ?_
          intro t8 k8
          rw [show Txt.join (Str.ofString "") (([a6, b6].take 2).map fun c => (⟨#[c &&& 127]⟩ : Str)) = ⟨#[a6 &&& 127, b6 &&& 127]⟩ from join2 _ _]
          k_steps
          k_dflt (refine' Chg.use (set_ok S d Lh hh th n k2 k' t' t8 ⟨#[a6 &&& 127, b6 &&& 127]⟩ vs2 tab2 (ext2 ++ (ext ++ rest))) (rest := (I, oI) :: (R9, listOf vs'.toArray k9) :: (ext2 ++ (ext ++ rest))) ?k1 ?k2 ?k3 ?k4 ?k5 ?k6 ?hn ?hp hL2 ?kd ?ku ?_)
          walk_at "mine:chg"
          case hn =>
            intro p hp
            simp only [List.mem_cons, List.mem_append] at hp ⊢
            rcases hp with h | h | h | h | h | h <;> simp [h]
          case hp => exact ⟨by k_mem, by k_mem, hT2, (fun p hp => List.mem_cons_of_mem _ (List.mem_cons_of_mem _ hp)), by omega, hG2.names, hk6.1, hk6.2, ok_two (okC_sign (okC_asc ha6)) (okC_sign (okC_asc hb6))⟩
          intro r9 h9 tk9 vs9 k9' ext9 ho9 F9 N9 hx9
          obtain ⟨rfl, hT9⟩ := ho9
          k_steps
          refine ⟨_, _, _, (R9, listOf vs'.toArray k9) :: (Lh, listOf vs9.toArray k9') :: ((ext9 ++ ext2) ++ (ext ++ rest)), rfl, by k_asm, cb_drop (by assumption) ?_, cb_drop (by assumption) ?_, ?_, ?_, setT tab2 k' ⟨#[a6 &&& 127, b6 &&& 127]⟩, vs9, k9', ext9 ++ ext2, rfl, ?_, ?_, hG2.set hk6.1 hk6.2, ?_⟩
          · intro p hp
            simp only [List.mem_cons, List.mem_append] at hp ⊢
            rcases hp with h | h | (h | h) | h | h <;> simp [h]
          · intro p hp
            simp only [List.mem_cons, List.mem_append, List.not_mem_nil, or_false] at hp ⊢
            rcases hp with h | h <;> simp [h]
          · intro p hp q
            have q' := List.mem_singleton.mp q
            simp only [List.mem_cons] at hp
            rcases hp with h | h | h
            · exact hIR (by rw [← q', h])
            · exact hnI (Lh, _) (List.mem_cons_of_mem _ List.mem_cons_self) (by rw [← q', h])
            · rcases List.mem_append.mp h with h | h
              · rcases List.mem_append.mp h with h | h
                · exact (hx9 p h).2 (I, oI) List.mem_cons_self q'.symm
                · exact hnI p (List.mem_cons_of_mem _ (List.mem_cons_of_mem _ (List.mem_append_left _ h))) q'
              · exact hnI p (List.mem_cons_of_mem _ (List.mem_cons_of_mem _ (List.mem_append_right _ h))) q'
          · walk_at "mine:off"
          · intro p hp
            rcases List.mem_append.mp hp with h | h
            · refine ⟨(hx9 p h).1, Ne.symm ((hx9 p h).2 (R9, _) (List.mem_cons_of_mem _ List.mem_cons_self)), fun q hq => (hx9 p h).2 q (List.mem_cons_of_mem _ (List.mem_cons_of_mem _ (List.mem_append_right _ hq)))⟩
            · exact hx2 p h
          · rw [List.append_assoc]; exact hT9
          · rw [take_foldT hv', ← hf, fin_set e6']
      · rename_i e6
        have e6' : ¬ 127 < a6 := e6
        k_dflt (refine' Chg.use (del_ok S d Lh hh th n k2 k' t' vs2 tab2 (ext2 ++ (ext ++ rest))) (rest := (I, oI) :: (R9, listOf vs'.toArray k9) :: (ext2 ++ (ext ++ rest))) ?k1 ?k2 ?k3 ?k4 ?k5 ?k6 ?hn ?hp hL2 ?kd ?ku ?_)
        walk_at "mine:chg"
        case hn =>
          intro p hp
          simp only [List.mem_cons, List.mem_append] at hp ⊢
          rcases hp with h | h | h | h | h | h <;> simp [h]
        case hp => exact ⟨by k_mem, by k_mem, hT2, (fun p hp => List.mem_cons_of_mem _ (List.mem_cons_of_mem _ hp)), by omega, hG2.names, hk6.1, hk6.2⟩
        intro r9 h9 tk9 vs9 k9' ext9 ho9 F9 N9 hx9
        obtain ⟨rfl, rfl, hT9⟩ := ho9
        k_steps
        refine ⟨_, _, _, (R9, listOf vs'.toArray k9) :: (Lh, listOf vs9.toArray k9') :: (ext2 ++ (ext ++ rest)), rfl, by k_asm, cb_drop (by assumption) ?_, cb_drop (by assumption) ?_, ?_, ?_, delT tab2 k', vs9, k9', ext2, rfl, hx2, hT9, hG2.del, ?_⟩
        · intro p hp
          simp only [List.mem_cons, List.mem_append, List.nil_append] at hp ⊢
          rcases hp with h | h | h | h | h <;> simp [h]
        · intro p hp
          simp only [List.mem_cons, List.mem_append, List.not_mem_nil, or_false, List.nil_append] at hp ⊢
          rcases hp with h | h <;> simp [h]
        · intro p hp q
          have q' := List.mem_singleton.mp q
          simp only [List.mem_cons] at hp
          rcases hp with h | h | h
          · exact hIR (by rw [← q', h])
          · exact hnI (Lh, _) (List.mem_cons_of_mem _ List.mem_cons_self) (by rw [← q', h])
          · exact hnI p (List.mem_cons_of_mem _ (List.mem_cons_of_mem _ h)) q'
        · walk_at "mine:off"
        · rw [take_foldT hv', ← hf, fin_del e6']
    · rintro h8 tk8 u news₁ ⟨tab2, vs2, k2, ext2, rfl, hx2, hT2, hG2, hf⟩ F8 N8
      clear F9 N9
      rw [hvl', List.take_length, hb] at hf
      simp only [over] at F8
      k_steps
      refine hret _ _ _ vs2 k2 (ext2 ++ ext) ⟨rfl, ?_⟩ (by k_asm) (cb_drop (by assumption) ?_) ?_
      · rw [List.append_assoc, show collectP tab roots = tab2 from hf.symm]; exact hT2
      · intro p hp
        simp only [List.mem_cons, List.mem_append] at hp ⊢
        rcases hp with h | (h | h) | h <;> simp [h]
      · intro p hp
        rcases List.mem_append.mp hp with h | h
        · exact ⟨(hx2 p h).1, fun q hq => (hx2 p h).2.2 q (List.mem_append_right _ hq)⟩
        · exact hx p h
  · exact ⟨tab, 0, 0, roots, _, _, _, vs, k, [], rfl, fun p hp => absurd hp List.not_mem_nil, hT, hG, (metaN_zero hm0).symm, Nat.le_refl _, rfl, rfl, rfl, hr, rfl⟩
  · rintro i u news₁ h9 tk9 tc I oI hi ⟨tab', mk, dn, wt, t1, t2, t3, vs', k', ext, rfl, hx, hT', hG', hmk, hdn, hu1, hu2, hu3, hw, hb⟩ hnI hnI' F2 N2
    clear F1 N1' hr1
    simp only [over, hu1, hu2, hu3] at F2
    k_steps
    (rename Fr _ _ _ _ => F5); (rename News _ _ _ _ => N5)
    refine turns_strN [Str.ofString "sign", Str.ofString "held", Str.ofString "marked"]
      (fun j u2 news₂ => ∃ tab2 mk2 t4 vs2 k2 ext2, news₂ = (I, oI) :: (Lh, listOf vs2.toArray k2) :: (ext2 ++ rest) ∧ (∀ p ∈ ext2, p.1 ≠ Lh ∧ p.1 ≠ I ∧ ∀ q ∈ rest, q.1 ≠ p.1) ∧ TabIn (ext2 ++ rest) vs2 tab2 ∧ Good tab2 ∧ mk2 = metaN tab2 ∧ mk ≤ mk2 ∧
        u2 (Str.ofString "marked") = some (.int (mk2 : Nat) t4) ∧ (tab2, mk2) = (wt.cps.toList.take j).foldl step1 (tab', mk))
      rfl F5 N5 ?_ rfl rfl (by decide) ?_ ?_
    · exact ⟨tab', mk, t1, vs', k', ext, rfl, fun p hp => ⟨(hx p hp).1, hnI p (List.mem_cons_of_mem _ (List.mem_append_left _ hp)), (hx p hp).2⟩, hT', hG', hmk, Nat.le_refl _, rfl, rfl⟩
    · rintro j c u2 news₂ h7 tk7 tc2 I2 oI2 hc ⟨tab2, mk2, t4, vs2, k2, ext2, rfl, hx2, hT2, hG2, hmk2, hle2, hu4, hf⟩ hnI2 hnI2' F3 N3
      clear F5 N5
      simp only [over, hu4] at F3
      have hcc := hw c (Array.mem_of_getElem? hc)
      have mS : (S, instObj 171 d) ∈ ext2 ++ rest := List.mem_append_right _ m1
      have mD : (d, dictOf [⟨hh, .str (Str.ofString "_headers") th, .ref Lh⟩] n) ∈ ext2 ++ rest := List.mem_append_right _ m2
      k_steps
      · have hal : (isUp c || isLo c) = true := by assumption
        k_dflt (refine' PureN.use (get_ok S d Lh hh th n k2 c tc2 vs2 tab2) ?k1 ?k2 ?k3 ?k4 ?k5 ?k6 ?hp ?kd ?ku ?_)
        walk_at "mine:chg"
        case hp => exact ⟨by k_mem, by k_mem, by k_mem, hT2.sub (fun p hp => List.mem_cons_of_mem _ (List.mem_cons_of_mem _ (List.mem_cons_of_mem _ hp))), hG2.names, hcc.1, hcc.2⟩
        intro r6 h6 tk6 ho6 F6 N6
        cases hlk : look tab2 c with
        | none =>
          rw [hlk] at ho6
          dsimp only at ho6
          subst ho6
          k_steps
          refine ⟨_, _, _, _, rfl, by k_asm, cb_drop (by assumption) (fun p hp => List.mem_cons_of_mem _ hp), cb_drop (by assumption) (fun p hp => by rw [List.mem_singleton.mp hp]; exact List.mem_cons_self), fun p hp q => hnI2 p hp (List.mem_singleton.mp q), ?_, tab2, mk2, t4, vs2, k2, ext2, rfl, hx2, hT2, hG2, hmk2, hle2, ?_, ?_⟩
          · walk_at "mine:off"
          · walk_at "mine:at"
          · rw [take_fold (by simpa using hc), ← hf, step_none hal hlk]
        | some x6 =>
          rw [hlk] at ho6
          obtain ⟨u6, rfl⟩ := ho6
          obtain ⟨a6, b6, rfl, ha6, hb6⟩ : ∃ a b, x6 = ⟨#[a, b]⟩ ∧ okC a ∧ okC b := by
            obtain ⟨k6, hm6, _⟩ := look_mem hlk
            exact hG2.texts _ hm6
          k_steps
          · rename_i e6
            have e6' : 127 < a6 := e6
            refine ⟨_, _, _, _, rfl, by k_asm, cb_drop (by assumption) (fun p hp => List.mem_cons_of_mem _ hp), cb_drop (by assumption) (fun p hp => by rw [List.mem_singleton.mp hp]; exact List.mem_cons_self), fun p hp q => hnI2 p hp (List.mem_singleton.mp q), ?_, tab2, mk2, t4, vs2, k2, ext2, rfl, hx2, hT2, hG2, hmk2, hle2, ?_, ?_⟩
            · walk_at "mine:off"
            · walk_at "mine:at"
            · rw [take_fold (by simpa using hc), ← hf, step_had hal hlk e6']
          · rename_i e6
            have e6' : ¬ 127 < a6 := e6
            (rename Fr _ _ _ _ => F7); (rename News _ _ _ _ => N7)
            refine ⟨_, _, _, rfl, rfl, F7, N7, (by simp [sizeLine_eq]), ?_⟩
            rintro s₂ ⟨gg, rfl⟩
            refine restV_by (n := 2) (fun i ys => ∃ l : List (Str × Tok), ys = strValues l ∧ l.map (·.1) = ([a6, b6].take i).map fun c => (⟨#[c ||| 128]⟩ : Str)) ?_ ?_ _ 0 [] rfl ⟨[], rfl, rfl⟩
            · rintro i v ys I8 oI8 C8 oC8 D8 m8 h8 tk8 E8 hi8 ⟨c8, u8, hc8, rfl⟩ ⟨l8, rfl, hl8⟩ hC8 hx8 F8 N8 off8 ne8
              have hcs : c8 < 256 := by
                have : c8 = a6 ∨ c8 = b6 := by simpa using Array.mem_of_getElem? hc8
                rcases this with e | e
                · rw [e]; exact ha6.1
                · rw [e]; exact hb6.1
              k_steps
              exact LCg.CompEnd.intro F9 N9 _ (fun p hp => hp) off8 trivial ⟨rfl, strs_snoc hl8 (by simpa using hc8)⟩
            · rintro ys ⟨l8, rfl, hl8⟩
              intro D8 h8 tk8 F8 N8 off8
              k_steps
              refine SC.join (l := l8) ⟨_, (N8 _ List.mem_cons_self).1, rfl, _, rfl⟩ hl8 (join2_ok _ _) ?_
              intro t8 k8
              rw [show Txt.join (Str.ofString "") (([a6, b6].take 2).map fun c => (⟨#[c ||| 128]⟩ : Str)) = ⟨#[a6 ||| 128, b6 ||| 128]⟩ from join2 _ _]
              k_steps
              k_dflt (refine' Chg.use (set_ok S d Lh hh th n k2 c tc2 t8 ⟨#[a6 ||| 128, b6 ||| 128]⟩ vs2 tab2 (ext2 ++ rest)) (rest := (I2, oI2) :: (I, oI) :: (ext2 ++ rest)) ?k1 ?k2 ?k3 ?k4 ?k5 ?k6 ?hn ?hp ?hL ?kd ?ku ?_)
              walk_at "mine:chg"
              case hn =>
                intro p hp
                rcases List.mem_cons.mp hp with rfl | hp
                · exact List.mem_cons_of_mem _ (List.mem_cons_of_mem _ (List.mem_cons_of_mem _ List.mem_cons_self))
                · rcases List.mem_cons.mp hp with rfl | hp
                  · exact List.mem_cons_of_mem _ List.mem_cons_self
                  · rcases List.mem_cons.mp hp with rfl | hp
                    · exact List.mem_cons_of_mem _ (List.mem_cons_of_mem _ List.mem_cons_self)
                    · exact List.mem_cons_of_mem _ (List.mem_cons_of_mem _ (List.mem_cons_of_mem _ (List.mem_cons_of_mem _ hp)))
              case hp => exact ⟨by k_mem, by k_mem, hT2, (fun p hp => List.mem_cons_of_mem _ (List.mem_cons_of_mem _ hp)), (by have := hG2.len; omega), hG2.names, hcc.1, hcc.2, ok_two (okC_sign (okC_alt ha6)) (okC_sign (okC_alt hb6))⟩
              case hL =>
                intro p hp
                rcases List.mem_cons.mp hp with rfl | hp
                · exact Ne.symm (hnI2 (Lh, _) (List.mem_cons_of_mem _ List.mem_cons_self))
                · rcases List.mem_cons.mp hp with rfl | hp
                  · exact Ne.symm (hnI (Lh, _) List.mem_cons_self)
                  · rcases List.mem_append.mp hp with hp | hp
                    · exact (hx2 p hp).1
                    · exact hL p hp
              intro r9 h9 tk9 vs9 k9 ext9 ho9 F9 N9 hx9
              obtain ⟨rfl, hT9⟩ := ho9
              k_steps
              refine ⟨_, _, _, (I, oI) :: (Lh, listOf vs9.toArray k9) :: ((ext9 ++ ext2) ++ rest), rfl, by k_asm, cb_drop (by assumption) ?_, cb_drop (by assumption) ?_, ?_, ?_, setT tab2 c ⟨#[a6 ||| 128, b6 ||| 128]⟩, mk2 + 1, _, vs9, k9, ext9 ++ ext2, rfl, ?_, ?_, ?_, ?_, ?_, rfl, ?_⟩
              · intro p hp
                simp only [List.mem_cons, List.mem_append] at hp ⊢
                rcases hp with h | h | (h | h) | h <;> simp [h]
              · intro p hp
                simp only [List.mem_cons, List.mem_append, List.not_mem_nil, or_false] at hp ⊢
                simp [hp]
              · intro p hp q
                have q' := List.mem_singleton.mp q
                simp only [List.mem_cons, List.mem_append] at hp
                rcases hp with h | h | (h | h) | h
                · exact hnI2 (I, oI) List.mem_cons_self (by rw [← q', h])
                · exact hnI2 (Lh, _) (List.mem_cons_of_mem _ List.mem_cons_self) (by rw [← q', h])
                · exact (hx9 p h).2 (I2, oI2) List.mem_cons_self q'.symm
                · exact hnI2 p (List.mem_cons_of_mem _ (List.mem_cons_of_mem _ (List.mem_append_left _ h))) q'
                · exact hnI2 p (List.mem_cons_of_mem _ (List.mem_cons_of_mem _ (List.mem_append_right _ h))) q'
              · walk_at "mine:off"
              · intro p hp
                rcases List.mem_append.mp hp with h | h
                · refine ⟨(hx9 p h).1, Ne.symm ((hx9 p h).2 (I, oI) (List.mem_cons_of_mem _ List.mem_cons_self)), fun q hq => (hx9 p h).2 q (List.mem_cons_of_mem _ (List.mem_cons_of_mem _ (List.mem_append_right _ hq)))⟩
                · exact hx2 p h
              · rw [List.append_assoc]; exact hT9
              · exact good_set hG2 hlk hcc.1 hcc.2 (okC_alt ha6) (okC_alt hb6)
              · rw [metaN_set hG2 hlk e6' (alt_meta ha6), hmk2]
              · omega
              · rw [take_fold (by simpa using hc), ← hf, step_new hal hlk e6', altS_two]
      · have hal : (isUp c || isLo c) = false := by first | assumption | (simp_all; done)
        refine ⟨_, _, _, _, rfl, by k_asm, cb_drop (by assumption) (fun p hp => List.mem_cons_of_mem _ hp), cb_drop (by assumption) (fun p hp => by rw [List.mem_singleton.mp hp]; exact List.mem_cons_self), fun p hp q => hnI2 p hp (List.mem_singleton.mp q), ?_, tab2, mk2, t4, vs2, k2, ext2, rfl, hx2, hT2, hG2, hmk2, hle2, ?_, ?_⟩
        · walk_at "mine:off"
        · walk_at "mine:at"
        · rw [take_fold (by simpa using hc), ← hf, step_out hal]
    · rintro h7 tk7 u2 news₂ ⟨tab2, mk2, t4, vs2, k2, ext2, rfl, hx2, hT2, hG2, hmk2, hle2, hu4, hf⟩ F3 N3
      clear F5 N5
      simp only [over, hu4] at F3
      rw [List.take_of_length_le (by simp)] at hf
      k_steps
      · rename_i e5
        have e5' : dn = mk2 := by omega
        (rename Fr _ _ _ _ => F7); (rename News _ _ _ _ => N7)
        (try dsimp only)
        unfold TurnEnd
        (try dsimp only)
        refine ⟨tab2, vs2, k2, ext2, _, _, _, rfl, F7, ?_, (fun p hp => N7 p (List.mem_cons_of_mem _ hp)), (fun p hp => ⟨(hx2 p hp).1, (hx2 p hp).2.2⟩), hT2, hG2, ?_⟩
        · walk_at "mine:at"
        · rw [← hb, show 7 - i = (6 - i) + 1 by omega, bfs_brk hf e5']
      · rename_i e5
        have e5' : dn ≠ mk2 := by omega
        have hlt : dn < mk2 := by omega
        have hle3 := metaN_le tab2
        have mS : (S, instObj 171 d) ∈ ext2 ++ rest := List.mem_append_right _ m1
        have mD : (d, dictOf [⟨hh, .str (Str.ofString "_headers") th, .ref Lh⟩] n) ∈ ext2 ++ rest := List.mem_append_right _ m2
        k_dflt (refine' Mk.use (values_ok S d Lh hh th n k2 vs2 tab2) ?k1 ?k2 ?k3 ?k4 ?k5 ?k6 ?hp ?kd ?ku ?_)
        walk_at "mine:chg"
        case hp => exact ⟨by k_mem, by k_mem, by k_mem, hT2.sub (fun p hp => List.mem_cons_of_mem _ (List.mem_cons_of_mem _ hp)), (by have := hG2.len; omega)⟩
        intro R9 o9 h9 tk9 ho9 F9 N9 hR9
        obtain ⟨ys9, k9, rfl, hys⟩ := ho9
        k_steps
        have hyl := hys.length
        have hl9 : h9.IsList R9 ys9.toArray := ⟨_, (N9 _ List.mem_cons_self).1, rfl, _, rfl⟩
        obtain ⟨p9, hp9⟩ : ∃ p, tab2[tab2.length - (mk2 - dn)]? = some p := ⟨_, List.getElem?_eq_getElem (by omega)⟩
        obtain ⟨a6, b6, hx6, ha6, hb6⟩ := hG2.texts p9 (List.mem_of_getElem? hp9)
        obtain ⟨c9, x9⟩ := p9
        dsimp only at hx6
        subst hx6
        obtain ⟨u9, hu9⟩ := hys.get hp9
        have hidx : ((dn : Int) - (mk2 : Int) + (ys9.toArray.size : Int)).toNat = tab2.length - (mk2 - dn) := by simp only [List.size_toArray]; omega
        k_dflt (refine tail_any hl9.typeIs slot_list_getitem.lookup (wpAny_getItem_list_neg hl9 (by omega) (by simp only [List.size_toArray]; omega) ?_ (by rw [hidx]; simpa using hu9) ?_) (by with_unfolding_all rfl))
        · have := hG2.len
          omega
        k_steps
        (rename Fr _ _ _ _ => F7); (rename News _ _ _ _ => N7)
        refine ⟨_, _, _, rfl, rfl, F7, N7, (by simp [sizeLine_eq]), ?_⟩
        rintro s₂ ⟨gg, rfl⟩
        refine restV_by (n := 2) (fun i ys => ∃ l : List (Str × Tok), ys = strValues l ∧ l.map (·.1) = ([a6, b6].take i).map fun c => (⟨#[c &&& 127]⟩ : Str)) ?_ ?_ _ 0 [] rfl ⟨[], rfl, rfl⟩
        · rintro i v ys I8 oI8 C8 oC8 D8 m8 h8 tk8 E8 hi8 ⟨c8, u8, hc8, rfl⟩ ⟨l8, rfl, hl8⟩ hC8 hx8 F8 N8 off8 ne8
          have hcs : c8 < 256 := by
            have : c8 = a6 ∨ c8 = b6 := by simpa using Array.mem_of_getElem? hc8
            rcases this with e | e
            · rw [e]; exact ha6.1
            · rw [e]; exact hb6.1
          k_steps
          exact LCg.CompEnd.intro F9 N9 _ (fun p hp => hp) off8 trivial ⟨rfl, strs_snoc hl8 (by simpa using hc8)⟩
        · rintro ys ⟨l8, rfl, hl8⟩
          intro D8 h8 tk8 F8 N8 off8
          k_steps
          refine SC.join (l := l8) ⟨_, (N8 _ List.mem_cons_self).1, rfl, _, rfl⟩ hl8 (join2_ok _ _) ?_
          intro t8 k8
          rw [show Txt.join (Str.ofString "") (([a6, b6].take 2).map fun c => (⟨#[c &&& 127]⟩ : Str)) = ⟨#[a6 &&& 127, b6 &&& 127]⟩ from join2 _ _]
          k_steps
          refine ⟨_, _, _, (Lh, listOf vs2.toArray k2) :: (ext2 ++ rest), rfl, by k_asm, cb_drop (by assumption) ?_, cb_drop (by assumption) ?_, ?_, ?_, tab2, mk2, dn + 1, ⟨#[a6 &&& 127, b6 &&& 127]⟩, t4, _, _, vs2, k2, ext2, rfl, (fun p hp => ⟨(hx2 p hp).1, (hx2 p hp).2.2⟩), hT2, hG2, hmk2, hlt, rfl, rfl, rfl, ?_, ?_⟩
          · intro p hp
            simp only [List.mem_cons, List.mem_append] at hp ⊢
            rcases hp with h | h | h <;> simp [h]
          · intro p hp
            simp only [List.mem_cons, List.mem_append, List.not_mem_nil, or_false] at hp ⊢
            simp [hp]
          · intro p hp q
            have q' := List.mem_singleton.mp q
            simp only [List.mem_cons, List.mem_append] at hp
            rcases hp with h | h | h
            · exact hnI (Lh, _) List.mem_cons_self (by rw [← q', h])
            · exact (hx2 p h).2.1 q'
            · exact hnI p (List.mem_cons_of_mem _ (List.mem_append_right _ h)) q'
          · walk_at "mine:off"
          · intro z hz
            have : z = a6 &&& 127 ∨ z = b6 &&& 127 := by simpa using hz
            rcases this with e | e
            · rw [e]; exact asc_name ha6
            · rw [e]; exact asc_name hb6
          · rw [← hb, show 7 - i = (7 - (i + 1)) + 1 by omega, bfs_go hf e5', show textAt tab2 (tab2.length - (mk2 - dn)) = ⟨#[a6, b6]⟩ by unfold textAt; rw [hp9], ascS_two]
  · rintro h9 tk9 u news₁ ⟨tab', mk, dn, wt, t1, t2, t3, vs', k', ext, rfl, hx, hT', hG', hmk, hdn, hu1, hu2, hu3, hw, hb⟩ F2 N2
    exact ⟨tab', vs', k', ext, _, _, _, rfl, F2, rfl, N2, hx, hT', hG', hb⟩
end Mine
end

section
open PySem PySem.W PyProof.Rows PySem.Calls PySem.Spec
set_option Elab.async false
set_option maxRecDepth 100000
namespace Mine

-- behind «refine' Pure.use C ..»: the premises
local macro_rules | `(tactic| walk_at "exec For") => `(tactic| (k_here; (with_reducible rename Fr _ _ _ _ => kF); k_dflt (refine for_turnsF kF ?_)))
local macro_rules | `(tactic| walk_at "exec For Name Call cons nil") => `(tactic| (k_here; (with_reducible rename Fr _ _ _ _ => kF); k_dflt (refine for_turnsF kF ?_)))
local macro_rules | `(tactic| walk_at "exec For Name Name cons nil") => `(tactic| (k_here; (with_reducible rename Fr _ _ _ _ => kF); k_dflt (refine for_turnsF kF ?_)))
local macro_rules | `(tactic| walk_at "exec For Tuple Call cons nil") => `(tactic| (k_here; (with_reducible rename Fr _ _ _ _ => kF); k_dflt (refine for_turnsF kF ?_)))

def alpha16 : Array Nat := #[97, 98, 99, 100, 101, 102, 65, 66, 67, 68, 69, 70, 46, 55, 120, 91]
def sgn (m : Nat) : Nat := alpha16.getD (m % 16) 0
theorem item_sgn (m : Nat) : Txt.item (Str.ofString "abcdefABCDEF.7x[") ((m : Int).fmod 16) = ⟨#[sgn m]⟩ := by
  have e : (m : Int).fmod 16 = ((m % 16 : Nat) : Int) := by
    rw [Int.fmod_eq_emod_of_nonneg _ (by decide)]; rfl
  have h : ∀ k : Fin 16, Txt.item (Str.ofString "abcdefABCDEF.7x[") ((k.val : Nat) : Int) = ⟨#[alpha16.getD k.val 0]⟩ := by decide +kernel
  rw [e]
  exact h ⟨m % 16, Nat.mod_lt _ (by decide)⟩
theorem fdiv16 (n i : Nat) : ((n / 16 ^ i : Nat) : Int).fdiv 16 = ((n / 16 ^ (i + 1) : Nat) : Int) := by
  rw [Int.fdiv_eq_ediv_of_nonneg _ (by decide), Nat.pow_succ, ← Nat.div_div_eq_div_mul]; rfl
theorem snoc_sgn {l : List (Str × Tok)} {n i : Nat} {t : Tok} (h : l.map (·.1) = (List.range i).map fun j => (⟨#[sgn (n / 16 ^ j)]⟩ : Str)) :
    ∃ l', (strValues l).toArray.push (.str ⟨#[sgn (n / 16 ^ i)]⟩ t) = (strValues l').toArray ∧ l'.map (·.1) = (List.range (i + 1)).map fun j => (⟨#[sgn (n / 16 ^ j)]⟩ : Str) := by
  refine ⟨l ++ [(⟨#[sgn (n / 16 ^ i)]⟩, t)], by simp [strValues], ?_⟩
  rw [List.range_succ, List.map_append, List.map_append, h]; rfl
theorem join3 (x y z : Nat) : Txt.join (Str.ofString "") [⟨#[x]⟩, ⟨#[y]⟩, ⟨#[z]⟩] = ⟨#[x, y, z]⟩ := by
  have : Str.ofString "" = ⟨#[]⟩ := by decide +kernel
  rw [this]; rfl
theorem join3_ok (x y z : Nat) : JoinOk (Str.ofString "") [⟨#[x]⟩, ⟨#[y]⟩, ⟨#[z]⟩] = true := by
  have : Str.ofString "" = ⟨#[]⟩ := by decide +kernel
  rw [this]; rfl
def text2 (n : Nat) : Str := ⟨#[sgn n, sgn (n / 16)]⟩
def text3 (n : Nat) : Str := ⟨#[sgn n, sgn (n / 16), sgn (n / 256)]⟩

set_option maxHeartbeats 4000000 in
theorem text2_ok (n : Nat) (t u : Tok) : Pure 4 231 [.int (n : Int) t, .int 2 u] [] True (fun r => ∃ t', r = .str (text2 n) t') := by
  (( unfold Pure; k_fill; intro w mean mg mb dp un gd cn cs a ccd cl outer A₀ base h₀ L m news s Q E B F X N T hk hp hd' hu hret; refine wpAny_call ?_; (k_dflt (first | (refine' code_def ?k1 ?k2 ?k3 ?k4 ?k5 ?kA ?kF ?kK ?k6 ?k7 ?k8 ?k9 ?kB ?_ ?c2 ?c3 ?c4 ?c5; (case kA => exact rfl); (case kF => exact rfl); (case kK => first | exact rfl | assumption); (case k1 => k_asm); (case k2 => k_asm); (case k3 => k_asm); (case k4 => k_asm); (case k5 => k_asm); (case k6 => k_is); (case k7 => k_is); (case k8 => ktr_room); (case k9 => first | exact BindsTo.of_eq rfl | exact binds_K (by k_in) rfl (by k_is) rfl rfl rfl); (case c5 => decide); (case kB => exact locs rfl); (case c2 => exact rfl); (case c3 => exact rfl); (case c4 => exact rfl); k_whole; intro g' L' h' FG' F' N' B' X' T'; (try dsimp only); (try k_lift B'); (try k_fold)) | (refine' code_defC ?k1 ?k2 ?k3 ?k4 ?k5 ?kA ?kF ?kK ?k6 ?k7 ?k8 ?k9 ?kB ?kD ?_ ?c2 ?c3 ?c4; (case kA => exact rfl); (case kF => exact rfl); (case kK => first | exact rfl | assumption); (case k1 => k_asm); (case k2 => k_asm); (case k3 => k_asm); (case k4 => k_asm); (case k5 => k_asm); (case k6 => k_is); (case k7 => k_is); (case k8 => ktr_room); (case k9 => first | exact BindsTo.of_eq rfl | exact binds_K (by k_in) rfl (by k_is) rfl rfl rfl); (case kB => exact rfl); (case kD => decide +kernel); (case c2 => exact rfl); (case c3 => exact rfl); (case c4 => exact rfl); k_whole; intro g' L' h' tk' cells' FG' F' N' Y' B' X' T' l1; (try have l0 : ∀ p ∈ rest, p.1 < L' := fun p hp => l1 p (List.mem_cons_of_mem _ hp)); (try k_lt l1); k_cells Y'; (try simp only [List.cons_append, List.nil_append] at N'); (try dsimp only); (try k_lift B'); (try k_fold))))))
  k_steps
  (rename Fr _ _ _ _ => F1); (rename News _ _ _ _ => N1); (rename IsRange _ _ _ _ _ _ _ _ => hr1); (rename (∀ p, p ∈ news → _ < _) => l1)
  refine turns_rangeN (n := 2) [Str.ofString "turn", Str.ofString "number", Str.ofString "signs"] (fun i u news₁ => ∃ D t2 l k2, news₁ = (D, listOf (strValues l).toArray k2) :: news ∧ (∀ p ∈ news, p.1 ≠ D) ∧ u (Str.ofString "signs") = some (.ref D) ∧ (l.map (·.1) = (List.range i).map fun j => (⟨#[sgn (n / 16 ^ j)]⟩ : Str)) ∧ u (Str.ofString "number") = some (.int ((n / 16 ^ i : Nat) : Int) t2))
    rfl hr1 (by decide) (by rfl) F1 N1 ?_ rfl rfl (by decide) ?_ ?_
  · exact ⟨_, _, [], _, rfl, fun p hp => Nat.ne_of_lt (l1 p hp), rfl, rfl, by rw [Nat.pow_zero, Nat.div_one]; rfl⟩
  · rintro i u news₁ h9 tk9 tc I oI hi ⟨D, t2, l, k2, rfl, hDn, hD, hl, hu⟩ hnI hnI' F2 N2
    clear F1 N1 hr1
    simp only [over, hD, hu] at F2
    have hll : l.length = i := by
      have := congrArg List.length hl
      simpa using this
    k_steps
    rw [item_sgn]
    (rename Fr _ _ _ _ => F3); (rename News _ _ _ _ => N3)
    k_dflt (refine append_K F3 N3 (.tail (Ne.symm (hnI (D, _) List.mem_cons_self)) (.head hDn)) ?_ ?_)
    rotate_left
    · simp only [List.size_toArray, sizeLine_eq, strValues, List.length_map]
      omega
    · intro h7 F7 N7
      clear F3 N3
      obtain ⟨l', el, hl'⟩ := snoc_sgn (t := tk9 + 1 + 1 + 1) hl
      rw [el] at N7
      k_steps
      refine ⟨_, _, _, (D, listOf (strValues l').toArray (k2 + 1)) :: news, rfl, by k_asm, cb_drop (by assumption) (fun p hp => List.mem_cons_of_mem _ hp), cb_drop (by assumption) (fun p hp => by rw [List.mem_singleton.mp hp]; exact List.mem_cons_self), fun p hp q => (by rcases List.mem_cons.mp hp with h | h; exact hnI (D, _) List.mem_cons_self (by rw [← List.mem_singleton.mp q, h]); exact hnI p (List.mem_cons_of_mem _ h) (List.mem_singleton.mp q)), ?_, D, _, l', _, rfl, hDn, rfl, hl', by rw [← fdiv16]; rfl⟩
      · intro z hz
        simp only [List.mem_cons, List.not_mem_nil, or_false, not_or] at hz
        obtain ⟨z1, z2, z3⟩ := hz
        (repeat first | rw [if_neg z1] | rw [if_neg z2] | rw [if_neg z3])
  · rintro h9 tk9 u news₁ ⟨D, t2, l, k2, rfl, hDn, hD, hl, hu⟩ F2 N2
    clear F1 N1 hr1
    simp only [over, hD, hu] at F2
    have hl2 : l.map (·.1) = [⟨#[sgn n]⟩, ⟨#[sgn (n / 16)]⟩] := by
      rw [hl, show List.range 2 = [0, 1] from rfl]
      simp only [List.map_cons, List.map_nil, Nat.pow_zero, Nat.div_one, Nat.pow_one, show (16 : Nat) ^ 2 = 256 from rfl]
    k_steps
    (rename Fr _ _ _ _ => F3); (rename News _ _ _ _ => N3)
    refine SC.join (l := l) ⟨_, (N3 _ List.mem_cons_self).1, rfl, _, rfl⟩ hl2 (join2_ok _ _) ?_
    intro t8 k8
    rw [join2]
    k_steps
    (rename News _ _ _ _ => N4)
    exact hret _ _ _ ⟨_, rfl⟩ (by k_asm) (fun p hp => N4 p (List.mem_cons_of_mem _ hp))

set_option maxHeartbeats 4000000 in
theorem text3_ok (n : Nat) (t u : Tok) : Pure 4 231 [.int (n : Int) t, .int 3 u] [] True (fun r => ∃ t', r = .str (text3 n) t') := by
  (( unfold Pure; k_fill; intro w mean mg mb dp un gd cn cs a ccd cl outer A₀ base h₀ L m news s Q E B F X N T hk hp hd' hu hret; refine wpAny_call ?_; (k_dflt (first | (refine' code_def ?k1 ?k2 ?k3 ?k4 ?k5 ?kA ?kF ?kK ?k6 ?k7 ?k8 ?k9 ?kB ?_ ?c2 ?c3 ?c4 ?c5; (case kA => exact rfl); (case kF => exact rfl); (case kK => first | exact rfl | assumption); (case k1 => k_asm); (case k2 => k_asm); (case k3 => k_asm); (case k4 => k_asm); (case k5 => k_asm); (case k6 => k_is); (case k7 => k_is); (case k8 => ktr_room); (case k9 => first | exact BindsTo.of_eq rfl | exact binds_K (by k_in) rfl (by k_is) rfl rfl rfl); (case c5 => decide); (case kB => exact locs rfl); (case c2 => exact rfl); (case c3 => exact rfl); (case c4 => exact rfl); k_whole; intro g' L' h' FG' F' N' B' X' T'; (try dsimp only); (try k_lift B'); (try k_fold)) | (refine' code_defC ?k1 ?k2 ?k3 ?k4 ?k5 ?kA ?kF ?kK ?k6 ?k7 ?k8 ?k9 ?kB ?kD ?_ ?c2 ?c3 ?c4; (case kA => exact rfl); (case kF => exact rfl); (case kK => first | exact rfl | assumption); (case k1 => k_asm); (case k2 => k_asm); (case k3 => k_asm); (case k4 => k_asm); (case k5 => k_asm); (case k6 => k_is); (case k7 => k_is); (case k8 => ktr_room); (case k9 => first | exact BindsTo.of_eq rfl | exact binds_K (by k_in) rfl (by k_is) rfl rfl rfl); (case kB => exact rfl); (case kD => decide +kernel); (case c2 => exact rfl); (case c3 => exact rfl); (case c4 => exact rfl); k_whole; intro g' L' h' tk' cells' FG' F' N' Y' B' X' T' l1; (try have l0 : ∀ p ∈ rest, p.1 < L' := fun p hp => l1 p (List.mem_cons_of_mem _ hp)); (try k_lt l1); k_cells Y'; (try simp only [List.cons_append, List.nil_append] at N'); (try dsimp only); (try k_lift B'); (try k_fold))))))
  k_steps
  (rename Fr _ _ _ _ => F1); (rename News _ _ _ _ => N1); (rename IsRange _ _ _ _ _ _ _ _ => hr1); (rename (∀ p, p ∈ news → _ < _) => l1)
  refine turns_rangeN (n := 3) [Str.ofString "turn", Str.ofString "number", Str.ofString "signs"] (fun i u news₁ => ∃ D t2 l k2, news₁ = (D, listOf (strValues l).toArray k2) :: news ∧ (∀ p ∈ news, p.1 ≠ D) ∧ u (Str.ofString "signs") = some (.ref D) ∧ (l.map (·.1) = (List.range i).map fun j => (⟨#[sgn (n / 16 ^ j)]⟩ : Str)) ∧ u (Str.ofString "number") = some (.int ((n / 16 ^ i : Nat) : Int) t2))
    rfl hr1 (by decide) (by rfl) F1 N1 ?_ rfl rfl (by decide) ?_ ?_
  · exact ⟨_, _, [], _, rfl, fun p hp => Nat.ne_of_lt (l1 p hp), rfl, rfl, by rw [Nat.pow_zero, Nat.div_one]; rfl⟩
  · rintro i u news₁ h9 tk9 tc I oI hi ⟨D, t2, l, k2, rfl, hDn, hD, hl, hu⟩ hnI hnI' F2 N2
    clear F1 N1 hr1
    simp only [over, hD, hu] at F2
    have hll : l.length = i := by
      have := congrArg List.length hl
      simpa using this
    k_steps
    rw [item_sgn]
    (rename Fr _ _ _ _ => F3); (rename News _ _ _ _ => N3)
    k_dflt (refine append_K F3 N3 (.tail (Ne.symm (hnI (D, _) List.mem_cons_self)) (.head hDn)) ?_ ?_)
    rotate_left
    · simp only [List.size_toArray, sizeLine_eq, strValues, List.length_map]
      omega
    · intro h7 F7 N7
      clear F3 N3
      obtain ⟨l', el, hl'⟩ := snoc_sgn (t := tk9 + 1 + 1 + 1) hl
      rw [el] at N7
      k_steps
      refine ⟨_, _, _, (D, listOf (strValues l').toArray (k2 + 1)) :: news, rfl, by k_asm, cb_drop (by assumption) (fun p hp => List.mem_cons_of_mem _ hp), cb_drop (by assumption) (fun p hp => by rw [List.mem_singleton.mp hp]; exact List.mem_cons_self), fun p hp q => (by rcases List.mem_cons.mp hp with h | h; exact hnI (D, _) List.mem_cons_self (by rw [← List.mem_singleton.mp q, h]); exact hnI p (List.mem_cons_of_mem _ h) (List.mem_singleton.mp q)), ?_, D, _, l', _, rfl, hDn, rfl, hl', by rw [← fdiv16]; rfl⟩
      · intro z hz
        simp only [List.mem_cons, List.not_mem_nil, or_false, not_or] at hz
        obtain ⟨z1, z2, z3⟩ := hz
        (repeat first | rw [if_neg z1] | rw [if_neg z2] | rw [if_neg z3])
  · rintro h9 tk9 u news₁ ⟨D, t2, l, k2, rfl, hDn, hD, hl, hu⟩ F2 N2
    clear F1 N1 hr1
    simp only [over, hD, hu] at F2
    have hl2 : l.map (·.1) = [⟨#[sgn n]⟩, ⟨#[sgn (n / 16)]⟩, ⟨#[sgn (n / 256)]⟩] := by
      rw [hl, show List.range 3 = [0, 1, 2] from rfl]
      simp only [List.map_cons, List.map_nil, Nat.pow_zero, Nat.div_one, Nat.pow_one, show (16 : Nat) ^ 2 = 256 from rfl]
    k_steps
    (rename Fr _ _ _ _ => F3); (rename News _ _ _ _ => N3)
    refine SC.join (l := l) ⟨_, (N3 _ List.mem_cons_self).1, rfl, _, rfl⟩ hl2 (join3_ok _ _ _) ?_
    intro t8 k8
    rw [join3]
    k_steps
    (rename News _ _ _ _ => N4)
    exact hret _ _ _ ⟨_, rfl⟩ (by k_asm) (fun p hp => N4 p (List.mem_cons_of_mem _ hp))
end Mine
end

section
open PySem PySem.W PyProof.Rows PySem.Calls PySem.Spec
set_option Elab.async false
set_option maxRecDepth 100000
namespace Mine
abbrev SS := List (Str × Str)
def valS (l : SS) (k : Str) : Option Str := (l.find? fun p => p.1 = k).map (·.2)
def putS (l : SS) (k v : Str) : SS := if l.any (fun p => p.1 = k) then l.map (fun p => if p.1 = k then (p.1, v) else p) else l ++ [(k, v)]
/-- the entries of a dict of texts by texts -/
inductive StrsD : List (Str × Value) → SS → Prop
  | nil : StrsD [] []
  | cons {k x : Str} {t : Tok} {kvs : List (Str × Value)} {l : SS} : StrsD kvs l → StrsD ((k, .str x t) :: kvs) ((k, x) :: l)
theorem StrsD.get {kvs : List (Str × Value)} {l : SS} (h : StrsD kvs l) (k : Str) : match valS l k with | some x => ∃ t, valueAt kvs k = some (.str x t) | none => valueAt kvs k = none := by
  induction h with
  | nil => rfl
  | @cons k' x t kvs l _ ih =>
    unfold valS valueAt at *
    simp only [List.find?_cons]
    by_cases e : k' = k
    · simp only [e, decide_true, Option.map_some]; exact ⟨t, rfl⟩
    · simp only [decide_eq_false e]; exact ih
theorem StrsD.some {kvs : List (Str × Value)} {l : SS} (h : StrsD kvs l) {k x : Str} (e : valS l k = some x) : ∃ t, valueAt kvs k = some (.str x t) := by
  have := h.get k
  rw [e] at this; exact this
theorem StrsD.none {kvs : List (Str × Value)} {l : SS} (h : StrsD kvs l) {k : Str} (e : valS l k = none) : valueAt kvs k = none := by
  have := h.get k
  rw [e] at this; exact this
theorem StrsD.has {kvs : List (Str × Value)} {l : SS} (h : StrsD kvs l) (k : Str) : (valueAt kvs k).isSome = (valS l k).isSome := by
  have := h.get k
  cases e : valS l k with
  | none => rw [e] at this; rw [this]; rfl
  | some x => rw [e] at this; obtain ⟨t, ht⟩ := this; rw [ht]; rfl
theorem StrsD.length {kvs : List (Str × Value)} {l : SS} (h : StrsD kvs l) : kvs.length = l.length := by
  induction h with
  | nil => rfl
  | cons _ ih => simp [ih]
theorem StrsD.any {kvs : List (Str × Value)} {l : SS} (h : StrsD kvs l) (k : Str) : (kvs.any fun p => decide (p.1 = k)) = l.any fun p => decide (p.1 = k) := by
  induction h with
  | nil => rfl
  | cons _ ih => simp [ih]
theorem StrsD.snoc {kvs : List (Str × Value)} {l : SS} (h : StrsD kvs l) (k x : Str) (t : Tok) : StrsD (kvs ++ [(k, .str x t)]) (l ++ [(k, x)]) := by
  induction h with
  | nil => exact .cons .nil
  | cons _ ih => exact .cons ih
theorem StrsD.map {kvs : List (Str × Value)} {l : SS} (h : StrsD kvs l) (k x : Str) (t : Tok) : StrsD (kvs.map fun p => if p.1 = k then (p.1, .str x t) else p) (l.map fun p => if p.1 = k then (p.1, x) else p) := by
  induction h with
  | nil => exact .nil
  | @cons k' x' t' kvs l _ ih =>
    simp only [List.map_cons]
    by_cases e : k' = k
    · rw [if_pos e, if_pos e]; exact .cons ih
    · rw [if_neg e, if_neg e]; exact .cons ih
theorem StrsD.put {kvs : List (Str × Value)} {l : SS} (h : StrsD kvs l) (k x : Str) (t : Tok) : StrsD (stored kvs k (.str x t)) (putS l k x) := by
  unfold stored putS
  rw [h.any k]
  by_cases e : (l.any fun p => decide (p.1 = k)) = true
  · rw [if_pos e, if_pos e]; exact h.map k x t
  · rw [if_neg e, if_neg e]; exact h.snoc k x t
theorem StrsD.at {kvs : List (Str × Value)} {l : SS} (h : StrsD kvs l) : ∀ {i : Nat} {p : Str × Str}, l[i]? = Option.some p → ∃ t, kvs[i]? = Option.some (p.1, .str p.2 t) := by
  induction h with
  | nil => intro i p e; simp at e
  | @cons k x t kvs l _ ih =>
    intro i p e
    cases i with
    | zero =>
      simp only [List.getElem?_cons_zero, Option.some.injEq] at e
      subst e
      exact ⟨t, rfl⟩
    | succ i => simp only [List.getElem?_cons_succ] at e ⊢; exact ih e
theorem putS_length (l : SS) (k v : Str) : (putS l k v).length ≤ l.length + 1 := by
  unfold putS
  split
  · rw [List.length_map]; omega
  · simp
theorem valS_cons (p : Str × Str) (l : SS) (z : Str) : valS (p :: l) z = if p.1 = z then some p.2 else valS l z := by
  unfold valS
  rw [List.find?_cons]
  by_cases h : p.1 = z
  · rw [if_pos h]; simp [h]
  · rw [if_neg h]; simp [h]
theorem valS_map (l : SS) (k v z : Str) : valS (l.map fun p => if p.1 = k then (p.1, v) else p) z = if z = k then (valS l z).map (fun _ => v) else valS l z := by
  induction l with
  | nil => unfold valS; split <;> rfl
  | cons p r ih =>
    rw [List.map_cons, valS_cons, valS_cons, ih]
    by_cases h1 : p.1 = k
    · rw [if_pos h1]
      by_cases h2 : p.1 = z
      · rw [if_pos h2, if_pos h2, if_pos (by rw [← h2, h1])]; rfl
      · rw [if_neg h2, if_neg h2]
    · rw [if_neg h1]
      by_cases h2 : p.1 = z
      · rw [if_pos h2, if_pos h2, if_neg (by rw [← h2]; exact h1)]
      · rw [if_neg h2, if_neg h2]
theorem valS_any (l : SS) (k : Str) : (l.any fun p => decide (p.1 = k)) = (valS l k).isSome := by
  induction l with
  | nil => rfl
  | cons p r ih =>
    rw [List.any_cons, ih, valS_cons]
    by_cases h : p.1 = k
    · rw [if_pos h]; simp [h]
    · rw [if_neg h]; simp [h]
theorem valS_snoc (l : SS) (k v z : Str) : valS (l ++ [(k, v)]) z = (valS l z).or (if k = z then some v else none) := by
  induction l with
  | nil => rw [List.nil_append, valS_cons]; rfl
  | cons p r ih =>
    rw [List.cons_append, valS_cons, valS_cons, ih]
    by_cases h : p.1 = z
    · rw [if_pos h, if_pos h]; rfl
    · rw [if_neg h, if_neg h]
theorem valS_put (l : SS) (k v z : Str) : valS (putS l k v) z = if z = k then some v else valS l z := by
  unfold putS
  rw [valS_any]
  by_cases e : (valS l k).isSome = true
  · rw [if_pos e, valS_map]
    by_cases h : z = k
    · rw [if_pos h, if_pos h, h]
      cases hv : valS l k with
      | none => rw [hv] at e; cases e
      | some x => rfl
    · rw [if_neg h, if_neg h]
  · rw [if_neg e, valS_snoc]
    by_cases h : z = k
    · rw [if_pos h, h, if_pos rfl]
      cases hv : valS l k with
      | none => rfl
      | some x => rw [hv] at e; exact absurd rfl e
    · rw [if_neg h, if_neg (fun q => h q.symm), Option.or_none]

-- dict steps over texts
section
variable {prog : Program} {w : World} {A : Around} {E : Value → Shared → Prop} {s : Shared} {h₀ : Heap} {L d : Addr} {m : Str → Option Value} {news : List (Addr × Obj)} {g : Obj → List (Addr × Obj)} {o : Obj} {kvs : List (Str × Value)} {l : SS} {k x : Str} {t u : Tok}
theorem in_S {Q : Value → Shared → Prop} (N : News h₀ L s.heap news) (hp : (d, o) ∈ news) (hd : o.IsDictOf (PySem.strKind prog w) kvs) (hS : StrsD kvs l) (lo : (d == sysModules) = false) (h : Q (.bool (valS l k).isSome) { s with toks := s.toks + 1 }) :
    wpAny (model prog w) A (compareOp .In (.str k t) (.ref d)) Q E s := kda_in N hp hd lo (strKind_is _ _ _ _) _ (hS.has k) h
theorem notin_S {Q : Value → Shared → Prop} (N : News h₀ L s.heap news) (hp : (d, o) ∈ news) (hd : o.IsDictOf (PySem.strKind prog w) kvs) (hS : StrsD kvs l) (lo : (d == sysModules) = false) (h : Q (.bool (!(valS l k).isSome)) { s with toks := s.toks + 1 }) :
    wpAny (model prog w) A (compareOp .NotIn (.str k t) (.ref d)) Q E s := kdg_notin N hp hd lo (strKind_is _ _ _ _) _ (hS.has k) h
theorem item_S {value slice : PySem.Expr} {Q : Value → Shared → Prop} (N : News h₀ L s.heap news) (hp : (d, o) ∈ news) (hd : o.IsDictOf (PySem.strKind prog w) kvs) (hS : StrsD kvs l) (hv : valS l k = some x) (h : ∀ u, Q (.str x u) { s with toks := s.toks + 1 })
    (hs : subscripted slice false (.ref d) (.str k t) = operate [.ref d, .str k t] (getItem (.ref d) (.str k t)) := by with_unfolding_all rfl) (hg : ∀ r, letTemporaryGo value (.ref d) r = pure () := by intro _; with_unfolding_all rfl) :
    wpAny (model prog w) A (subscriptTail value slice (.ref d) (.str k t)) Q E s := by
  obtain ⟨u, hu⟩ := hS.some hv
  exact kda_item N hp hd (strKind_is _ _ _ _) hu (h u) hs hg
theorem set_S {Q : Unit → Shared → Prop} (F : Fr h₀ L s.heap m) (N : News h₀ L s.heap news) (U : UpdF d o news g) (hd : o.IsDictOf (PySem.strKind prog w) kvs) (hS : StrsD kvs l) (hsz : l.length ≤ sizeLine)
    (h : ∀ h' o' kvs', Fr h₀ L h' m → News h₀ L h' (g o') → o'.IsDictOf (PySem.strKind prog w) kvs' → StrsD kvs' (putS l k x) → Q () { s with heap := h', toks := s.toks + 1 }) : wpAny (model prog w) A (setItem (.ref d) (.str k t) (.str x u)) Q E s :=
  kda_set F N U hd (strKind_is _ _ _ _) (by rw [hS.length]; exact hsz) fun h' o' F' N' hd' => h h' o' _ F' N' hd' (hS.put k x u)
end

/-- texts in a row, as values -/
inductive StrL : List Value → List Str → Prop
  | nil : StrL [] []
  | cons {x : Str} {t : Tok} {vs : List Value} {l : List Str} : StrL vs l → StrL (.str x t :: vs) (x :: l)
theorem StrL.get {vs : List Value} {l : List Str} (h : StrL vs l) : ∀ {i : Nat} {v : Value}, vs[i]? = some v → ∃ x t, l[i]? = some x ∧ v = .str x t := by
  induction h with
  | nil => intro i v e; simp at e
  | @cons x t vs l _ ih =>
    intro i v e
    cases i with
    | zero =>
      simp only [List.getElem?_cons_zero, Option.some.injEq] at e
      exact ⟨x, t, rfl, e.symm⟩
    | succ i => simp only [List.getElem?_cons_succ] at e ⊢; exact ih e
theorem StrL.length {vs : List Value} {l : List Str} (h : StrL vs l) : vs.length = l.length := by
  induction h with
  | nil => rfl
  | cons _ ih => simp [ih]
section
variable {h₀ h : Heap} {L ND WD : Addr} {own R : List (Addr × Obj)} {oN oW : Obj}
theorem rot_in (pre : List (Addr × Obj)) (N : News h₀ L h (own ++ (pre ++ (ND, oN) :: (WD, oW) :: R))) (ho : ∀ p ∈ own, p.1 ≠ ND ∧ p.1 ≠ WD) (ha : ∀ p ∈ pre, p.1 ≠ ND ∧ p.1 ≠ WD) (hR : ∀ p ∈ R, p.1 ≠ ND ∧ p.1 ≠ WD) :
    ∃ T, News h₀ L h ((ND, oN) :: (WD, oW) :: T) ∧ (∀ p ∈ T, p.1 ≠ ND) ∧ (∀ p ∈ T, p.1 ≠ WD) ∧ (∀ p ∈ R, p ∈ T) ∧ ∀ h' oN' oW', News h₀ L h' ((ND, oN') :: (WD, oW') :: T) → News h₀ L h' (own ++ (pre ++ (ND, oN') :: (WD, oW') :: R)) := by
  have key : ∀ p, p ∈ own ++ (pre ++ R) → p.1 ≠ ND ∧ p.1 ≠ WD := by
    intro p hp
    simp only [List.mem_append] at hp
    rcases hp with h | h | h
    · exact ho p h
    · exact ha p h
    · exact hR p h
  refine ⟨own ++ (pre ++ R), ?_, fun p hp => (key p hp).1, fun p hp => (key p hp).2, ?_, ?_⟩
  · intro p hp
    refine N p ?_
    simp only [List.mem_append, List.mem_cons] at hp ⊢
    rcases hp with h | h | h | h | h <;> simp [h]
  · intro p hp
    simp only [List.mem_append]; simp [hp]
  · intro h' oN' oW' N' p hp
    refine N' p ?_
    simp only [List.mem_append, List.mem_cons] at hp ⊢
    rcases hp with h | h | h | h | h <;> simp [h]
end
section
variable {prog : Program} {w : World} {A : Around} {E : Value → Shared → Prop} {s : Shared} {env : Env}
theorem to_text {e : PySem.Expr} {X : Str} {Q : Value → Shared → Prop} (h1 : wpAny (model prog w) A (eval e env) (fun v s' => ∃ t k, v = .str X t ∧ s' = { s with toks := k }) E s) (h2 : ∀ t k, Q (.str X t) { s with toks := k }) :
    wpAny (model prog w) A (eval e env) Q E s :=
  wpAny_mono h1 (fun _ _ ⟨t, k, hv, hs⟩ => by rw [hv, hs]; exact h2 t k) fun _ _ e => e
end
theorem valS_some_of {l : SS} {k : Str} (h : (!(valS l k).isSome) = false) : valS l k = some ((valS l k).getD Str.empty) := by
  cases e : valS l k with
  | none => rw [e] at h; cases h
  | some x => rfl

def digS (k : Nat) : Str := ⟨#[48 + k]⟩
theorem digS_length (k : Nat) : (digS k).length = 1 := rfl
section
variable {prog : Program} {w : World} {A : Around} {E : Value → Shared → Prop} {s : Shared}
theorem str_dig {k : Nat} {t : Tok} {Q : Value → Shared → Prop} (hk : k < 3) (h : ∀ u tk, Q (.str (digS k) u) { s with toks := tk }) : wpAny (model prog w) A (call (.type "str") [.int (k : Int) t]) Q E s := by
  have hl : ((k : Int)).natAbs.log2 < 1920 := by
    have : ∀ j : Fin 3, ((j.val : Int)).natAbs.log2 < 1920 := by decide +kernel
    exact this ⟨k, hk⟩
  have he : Str.ofString (toString (k : Int)) = digS k := by
    have : ∀ j : Fin 3, Str.ofString (toString (j.val : Int)) = digS j.val := by decide +kernel
    exact this ⟨k, hk⟩
  refine P.str_of_int hl ?_
  show Q (.str (Str.ofString (toString (k : Int))) s.toks) _
  rw [he]
  exact h _ _
theorem add_S {x y : Str} {t u : Tok} {Q : Value → Shared → Prop} (hsz : x.length + y.length ≤ 1000) (h : ∀ t' k, Q (.str (x ++ y) t') { s with toks := k }) : wpAny (model prog w) A (binaryOp .Add (.str x t) (.str y u)) Q E s :=
  SBL.add (fun t' k _ => h t' k) (by rw [sizeLine_eq]; omega)
end
theorem valS_of {l : SS} {k : Str} (h : (valS l k).isSome = true) : valS l k = some ((valS l k).getD Str.empty) := by
  cases e : valS l k with
  | none => rw [e] at h; cases h
  | some x => rfl
end Mine
end

section
open PySem PySem.W PyProof.Rows PySem.Calls PySem.Spec
set_option Elab.async false
set_option maxRecDepth 100000
namespace Mine
/-- (n, x) before (m, y) -/
def ltP (n : Int) (x : Str) (m : Int) (y : Str) : Bool := if n = m then (if x = y then false else decide (x.cps.toList < y.cps.toList)) else decide (n < m)
section
variable {prog : Program} {w : World} {A : Around} {E : Value → Shared → Prop} {s : Shared} {a b : Addr} {n m : Int} {x y : Str} {t u t' u' : Tok} {ka kb : Nat}
theorem lt_tree {R : PySem.Fin → Shared → Prop} {oa ob : Obj} (ha : s.heap.get? a = some oa) (hb : s.heap.get? b = some ob) (cb : ob.cls = .type "tuple") (da : oa.data = .seq #[.int n t, .str x u] ka) (db : ob.data = .seq #[.int m t', .str y u'] kb)
    (h : R (.done (.ret (.bool (ltP n x m y)))) s) : wpAny (model prog w) A (Builtin.«tuple.__lt__» ⟨[.ref a, .ref b], []⟩) R E s := by
  have hTb : s.TypeIs (.ref b) "tuple" := ⟨ob, hb, cb⟩
  show wpAny _ _ (isInstance (.ref b) (.type "tuple") >>= _) _ _ s
  refine wpAny_bind (wpAny_isInstance hTb isSubtype_tuple_tuple ?_)
  simp only [Bool.not_true, Bool.false_eq_true, if_false]
  refine wpAny_bind (wpAny_tupleItemsOf ha da ?_)
  refine wpAny_bind (wpAny_tupleItemsOf hb db ?_)
  refine wpAny_bind ?_
  refine wpAny_forIn_list _
    (fun rest r s' => r.1 = none ∧ s' = s ∧ (rest = [(.int n t, .int m t'), (.str x u, .str y u')] ∨ (rest = [(.str x u, .str y u')] ∧ n = m) ∨ (rest = [] ∧ n = m ∧ x = y)))
    _ ?_ ?_ _ _ ⟨rfl, rfl, .inl rfl⟩
  · rintro p rest r s' ⟨hr, rfl, hc⟩
    rcases hc with hc | ⟨hc, e1⟩ | ⟨hc, _⟩
    · simp only [List.cons.injEq] at hc
      obtain ⟨rfl, rfl⟩ := hc
      refine wpAny_bind ((intKind prog w).eqBool (a := n) (b := m) (intKind_is _ _ _ _) (intKind_is _ _ _ _) ?_)
      by_cases e : n = m
      · rw [decide_eq_true e]
        simp only [Bool.not_true, Bool.false_eq_true, if_false]
        exact wpAny_pure ⟨by first | rfl | trivial, rfl, .inr (.inl ⟨by first | rfl | trivial, e⟩)⟩
      · rw [decide_eq_false e]
        simp only [Bool.not_false, if_true]
        unfold ltP at h
        rw [if_neg e] at h
        have hc : ∀ {A : Around} {Q : Value → Shared → Prop}, Q (.bool (decide (n < m))) s' → wpAny (model prog w) A (richCompare .Lt (.int n t) (.int m t')) Q E s' := fun hq => P.lt_int hq
        refine wpAny_bind (wpAny_rule (wpAny_bind ?_))
        refine hc ?_
        exact wpAny_bind (wpAny_pure (wpAny_pure (wpAny_pure h)))
    · simp only [List.cons.injEq] at hc
      obtain ⟨rfl, rfl⟩ := hc
      refine wpAny_bind ((strKind prog w).eqBool (a := x) (b := y) (strKind_is _ _ _ _) (strKind_is _ _ _ _) ?_)
      by_cases e : x = y
      · rw [decide_eq_true e]
        simp only [Bool.not_true, Bool.false_eq_true, if_false]
        exact wpAny_pure ⟨by first | rfl | trivial, rfl, .inr (.inr ⟨by first | rfl | trivial, e1, e⟩)⟩
      · rw [decide_eq_false e]
        simp only [Bool.not_false, if_true]
        unfold ltP at h
        rw [if_pos e1, if_neg e] at h
        have hc : ∀ {A : Around} {Q : Value → Shared → Prop}, Q (.bool (decide (x.cps.toList < y.cps.toList))) s' → wpAny (model prog w) A (richCompare .Lt (.str x u) (.str y u')) Q E s' := fun hq => P.lt_str hq
        refine wpAny_bind (wpAny_rule (wpAny_bind ?_))
        refine hc ?_
        exact wpAny_bind (wpAny_pure (wpAny_pure (wpAny_pure h)))
    · exact absurd hc (by simp)
  · rintro ⟨r1, r2⟩ s' ⟨hr, rfl, hc⟩
    simp only at hr
    subst hr
    rcases hc with hc | ⟨hc, e1⟩ | ⟨hc, e1, e2⟩
    · cases hc
    · cases hc
    · subst e1; subst e2
      unfold ltP at h
      rw [if_pos rfl, if_pos rfl] at h
      exact wpAny_pure h
theorem lt_pairs {Q : Value → Shared → Prop} {oa ob : Obj} (ha : s.heap.get? a = some oa) (hb : s.heap.get? b = some ob) (ca : oa.cls = .type "tuple") (cb : ob.cls = .type "tuple") (da : oa.data = .seq #[.int n t, .str x u] ka) (db : ob.data = .seq #[.int m t', .str y u'] kb)
    (hu : A.units < cLine) (h : Q (.bool (ltP n x m y)) s) : wpAny (model prog w) A (compareOp .Lt (.ref a) (.ref b)) Q E s := by
  show wpAny _ _ (richCompare .Lt (.ref a) (.ref b)) _ _ _
  have hTa : s.TypeIs (.ref a) "tuple" := ⟨oa, ha, ca⟩
  have hTb : s.TypeIs (.ref b) "tuple" := ⟨ob, hb, cb⟩
  exact wpAny_richCompare_same_room (op := .Lt) hTa hTb F.slot_tuple_lt
    (wpAny_call_entry F.slot_tuple_lt hTa F.entry_tuple_lt (lt_tree ha hb cb da db ⟨_, rfl, (fun e => nomatch e), h⟩) (F.args_tuple_lt_2 _ _)) hu
end
end Mine
end

section
open PySem PySem.W PyProof.Rows PySem.Calls PySem.Spec
set_option Elab.async false
set_option maxRecDepth 100000
namespace Mine
def letters : List Str := [Str.ofString "", Str.ofString "a", Str.ofString "b", Str.ofString "c", Str.ofString "d", Str.ofString "e", Str.ofString "f"]
def wayS (st : SS × SS) (letter : Str) (k : Nat) : Str := (valS st.1 letter).getD Str.empty ++ digS k
def takes (tx : SS) (st : SS × SS) (way other : Str) : Bool := (valS tx other).isSome && (!(valS st.1 other).isSome || ltP way.length way ((valS st.1 other).getD Str.empty).length ((valS st.1 other).getD Str.empty))
def stepS (tx : SS) (letter : Str) (st : SS × SS) (p : Str × Nat) : SS × SS :=
  if takes tx st (wayS st letter p.2) (Txt.lower p.1) then (putS st.1 (Txt.lower p.1) (wayS st letter p.2), putS st.2 (Txt.lower p.1) p.1) else st
def textOf (tx : SS) (roots letter : Str) : Str := if letter.length = 0 then roots else (valS tx letter).getD Str.empty
def stepL (tx : SS) (roots : Str) (st : SS × SS) (letter : Str) : SS × SS := if (valS st.1 letter).isSome then (signs (textOf tx roots letter)).zipIdx.foldl (stepS tx letter) st else st
def stepR (tx : SS) (roots : Str) (st : SS × SS) : SS × SS := letters.foldl (stepL tx roots) st
def rounds (tx : SS) (roots : Str) : Nat → SS × SS
  | 0 => ([(Str.ofString "", Str.ofString "")], [])
  | n + 1 => stepR tx roots (rounds tx roots n)

structure Bd (st : SS × SS) (a : Nat) : Prop where
  ways : ∀ k x, valS st.1 k = some x → x.length ≤ a
  l1 : st.1.length ≤ a + 1
  l2 : st.2.length ≤ a
theorem Bd.mono {st : SS × SS} {a b : Nat} (h : Bd st a) (e : a ≤ b) : Bd st b := ⟨fun k x hx => Nat.le_trans (h.ways k x hx) e, by have := h.l1; omega, by have := h.l2; omega⟩
theorem Bd.get {st : SS × SS} {a : Nat} (h : Bd st a) (k : Str) : ((valS st.1 k).getD Str.empty).length ≤ a := by
  cases e : valS st.1 k with
  | none => exact Nat.zero_le _
  | some x => exact h.ways k x e
theorem Bd.way {st : SS × SS} {a : Nat} (h : Bd st a) (letter : Str) (k : Nat) : (wayS st letter k).length ≤ a + 1 := by
  unfold wayS
  rw [PySem.Str.length_append, digS_length]
  have := h.get letter
  omega
theorem bd_step {tx : SS} {letter : Str} {st : SS × SS} {p : Str × Nat} {a : Nat} (h : Bd st a) : Bd (stepS tx letter st p) (a + 1) := by
  unfold stepS
  split
  · refine ⟨fun k x hx => ?_, ?_, ?_⟩
    · dsimp only at hx
      rw [valS_put] at hx
      split at hx
      · injection hx with hx
        rw [← hx]; exact h.way _ _
      · exact Nat.le_succ_of_le (h.ways k x hx)
    · have := putS_length st.1 (Txt.lower p.1) (wayS st letter p.2)
      have := h.l1
      dsimp only; omega
    · have := putS_length st.2 (Txt.lower p.1) p.1
      have := h.l2
      dsimp only; omega
  · exact h.mono (Nat.le_succ _)
theorem bd_fold {tx : SS} {letter : Str} : ∀ {l : List (Str × Nat)} {st : SS × SS} {a : Nat}, Bd st a → Bd (l.foldl (stepS tx letter) st) (a + l.length)
  | [], _, _, h => h
  | p :: l, _, _, h => (bd_fold (l := l) (bd_step (p := p) h)).mono (by simp only [List.length_cons]; omega)
theorem bd_letter {tx : SS} {roots letter : Str} {st : SS × SS} {a : Nat} (hl : (textOf tx roots letter).length ≤ 3) (h : Bd st a) : Bd (stepL tx roots st letter) (a + 3) := by
  unfold stepL
  split
  · exact (bd_fold h).mono (by rw [List.length_zipIdx, signs_length]; omega)
  · exact h.mono (by omega)
theorem bd_letters {tx : SS} {roots : Str} : ∀ {l : List Str} {st : SS × SS} {a : Nat}, (∀ x ∈ l, (textOf tx roots x).length ≤ 3) → Bd st a → Bd (l.foldl (stepL tx roots) st) (a + 3 * l.length)
  | [], _, _, _, h => h
  | x :: l, _, _, hx, h => (bd_letters (l := l) (fun y hy => hx y (List.mem_cons_of_mem _ hy)) (bd_letter (hx x List.mem_cons_self) h)).mono (by simp only [List.length_cons]; omega)
theorem bd_zero {tx : SS} {roots : Str} : Bd (rounds tx roots 0) 0 := by
  refine ⟨?_, Nat.le_refl _, Nat.le_refl _⟩
  intro k x h
  have h' : valS [(Str.ofString "", Str.ofString "")] k = some x := h
  rw [valS_cons] at h'
  split at h'
  · injection h' with h'
    rw [← h']; decide
  · cases h'
theorem bd_rounds {tx : SS} {roots : Str} (hx : ∀ x ∈ letters, (textOf tx roots x).length ≤ 3) : ∀ i, Bd (rounds tx roots i) (21 * i)
  | 0 => bd_zero
  | i + 1 => (bd_letters hx (bd_rounds hx i)).mono (by have : letters.length = 7 := rfl
                                                       omega)
theorem bd_mid {tx : SS} {roots : Str} (hx : ∀ x ∈ letters, (textOf tx roots x).length ≤ 3) (i j : Nat) (hi : i < 6) : Bd ((letters.take j).foldl (stepL tx roots) (rounds tx roots i)) 140 := by
  refine (bd_letters (fun x h => hx x (List.mem_of_mem_take h)) (bd_rounds hx i)).mono ?_
  have : (letters.take j).length ≤ 7 := by
    rw [List.length_take]
    have : letters.length = 7 := rfl
    omega
  omega
theorem bd_in {tx : SS} {letter : Str} {st : SS × SS} {X : Str} (hX : X.length ≤ 3) (k : Nat) (h : Bd st 140) : Bd (((signs X).zipIdx.take k).foldl (stepS tx letter) st) 150 := by
  refine (bd_fold h).mono ?_
  have : ((signs X).zipIdx.take k).length ≤ 3 := by
    rw [List.length_take, List.length_zipIdx, signs_length]
    omega
  omega
theorem has_step {tx : SS} {letter z : Str} {st : SS × SS} {p : Str × Nat} (h : (valS st.1 z).isSome = true) : (valS (stepS tx letter st p).1 z).isSome = true := by
  unfold stepS
  split
  · dsimp only
    rw [valS_put]
    split
    · rfl
    · exact h
  · exact h
theorem has_fold {tx : SS} {letter z : Str} : ∀ {l : List (Str × Nat)} {st : SS × SS}, (valS st.1 z).isSome = true → (valS (l.foldl (stepS tx letter) st).1 z).isSome = true
  | [], _, h => h
  | p :: l, _, h => has_fold (l := l) (has_step (p := p) h)
theorem take_foldP {σ α : Type} {f : σ → α → σ} {l : List α} {j : Nat} {c : α} {z : σ} (h : l[j]? = some c) : (l.take (j + 1)).foldl f z = f ((l.take j).foldl f z) c := by
  rw [List.take_add_one, h, List.foldl_append]; rfl
theorem sign_at {X : Str} {k : Nat} {a : Str} (h : (signs X)[k]? = some a) : k < X.length ∧ ∃ c, a = ⟨#[c]⟩ ∧ c ∈ X.cps := by
  obtain ⟨hk, e⟩ := List.getElem?_eq_some_iff.mp h
  rw [signs_length] at hk
  refine ⟨hk, ?_⟩
  have hm : a ∈ signs X := List.mem_of_getElem? h
  unfold signs at hm
  obtain ⟨c, hc, rfl⟩ := List.mem_map.mp hm
  exact ⟨c, rfl, by simpa using hc⟩
theorem stepS_no {tx : SS} {letter : Str} {st : SS × SS} {p : Str × Nat} (h : takes tx st (wayS st letter p.2) (Txt.lower p.1) = false) : stepS tx letter st p = st := by
  unfold stepS; rw [h]; rfl
theorem stepS_yes {tx : SS} {letter : Str} {st : SS × SS} {p : Str × Nat} (h : takes tx st (wayS st letter p.2) (Txt.lower p.1) = true) : stepS tx letter st p = (putS st.1 (Txt.lower p.1) (wayS st letter p.2), putS st.2 (Txt.lower p.1) p.1) := by
  unfold stepS; rw [h]; rfl
theorem zip_at {X : Str} {k : Nat} {a : Str} (h : (signs X)[k]? = some a) : (signs X).zipIdx[k]? = some (a, k) := by simp [List.getElem?_zipIdx, h]
section
variable {tx : SS} {letter : Str} {st : SS × SS} {c k : Nat}
theorem step_no1 (hc : c < 127) (h1 : (valS tx ⟨#[low c]⟩).isSome = false) : stepS tx letter st (⟨#[c]⟩, k) = st :=
  stepS_no (by unfold takes; dsimp only; rw [lower_code c hc, h1]; rfl)
theorem step_no2 (hc : c < 127) (h2 : (valS st.1 ⟨#[low c]⟩).isSome = true) (h3 : ltP ((valS st.1 letter).getD Str.empty ++ digS k).length ((valS st.1 letter).getD Str.empty ++ digS k) ((valS st.1 ⟨#[low c]⟩).getD Str.empty).length ((valS st.1 ⟨#[low c]⟩).getD Str.empty) = false) : stepS tx letter st (⟨#[c]⟩, k) = st :=
  stepS_no (by unfold takes wayS; dsimp only; rw [lower_code c hc, h2, h3]; simp)
theorem step_yes1 (hc : c < 127) (h1 : (valS tx ⟨#[low c]⟩).isSome = true) (h2 : (valS st.1 ⟨#[low c]⟩).isSome = false) : stepS tx letter st (⟨#[c]⟩, k) = (putS st.1 ⟨#[low c]⟩ ((valS st.1 letter).getD Str.empty ++ digS k), putS st.2 ⟨#[low c]⟩ ⟨#[c]⟩) := by
  rw [stepS_yes (by unfold takes; dsimp only; rw [lower_code c hc, h1, h2]; simp)]
  dsimp only
  rw [lower_code c hc]; rfl
theorem step_yes2 (hc : c < 127) (h1 : (valS tx ⟨#[low c]⟩).isSome = true) (h3 : ltP ((valS st.1 letter).getD Str.empty ++ digS k).length ((valS st.1 letter).getD Str.empty ++ digS k) ((valS st.1 ⟨#[low c]⟩).getD Str.empty).length ((valS st.1 ⟨#[low c]⟩).getD Str.empty) = true) : stepS tx letter st (⟨#[c]⟩, k) = (putS st.1 ⟨#[low c]⟩ ((valS st.1 letter).getD Str.empty ++ digS k), putS st.2 ⟨#[low c]⟩ ⟨#[c]⟩) := by
  rw [stepS_yes (by unfold takes wayS; dsimp only; rw [lower_code c hc, h1, h3]; simp)]
  dsimp only
  rw [lower_code c hc]; rfl
end
end Mine
end

section
open PySem PySem.W PyProof.Rows PySem.Calls PySem.Spec
set_option Elab.async false
set_option maxRecDepth 100000
namespace Mine
def runT {α : Type} (f : Nat → Nat → Bool) : KasT α → α
  | .ret a => a
  | .ask i j k => runT f (k (f i j))
def okT {α : Type} (n : Nat) (f : Nat → Nat → Bool) : KasT α → Bool
  | .ret _ => true
  | .ask i j k => decide (i < n) && decide (j < n) && okT n f (k (f i j))
theorem run_congr {α : Type} {n : Nat} {f g : Nat → Nat → Bool} (h : ∀ i j, i < n → j < n → f i j = g i j) : ∀ t : KasT α, okT n g t = true → runT f t = runT g t ∧ okT n f t = true
  | .ret _, _ => ⟨rfl, rfl⟩
  | .ask i j k, ht => by
    unfold okT at ht
    simp only [Bool.and_eq_true, decide_eq_true_eq] at ht
    have e := h i j ht.1.1 ht.1.2
    have := run_congr h (k (g i j)) ht.2
    refine ⟨?_, ?_⟩
    · show runT f (k (f i j)) = runT g (k (g i j))
      rw [e]; exact this.1
    · show (decide (i < n) && decide (j < n) && okT n f (k (f i j))) = true
      rw [e, this.2, decide_eq_true ht.1.1, decide_eq_true ht.1.2]; rfl
theorem run_wp {α : Type} {n : Nat} {f : Nat → Nat → Bool} {cmp : Nat → Nat → (Bool → Shared → Prop) → Shared → Prop} {Q : α → Shared → Prop} {s : Shared} (h : ∀ i j, i < n → j < n → ∀ C : Bool → Shared → Prop, C (f i j) s → cmp i j C s) :
    ∀ t : KasT α, okT n f t = true → Q (runT f t) s → t.kasWp cmp Q s
  | .ret _, _, hq => hq
  | .ask i j k, ht, hq => by
    unfold okT at ht
    simp only [Bool.and_eq_true, decide_eq_true_eq] at ht
    exact h i j ht.1.1 ht.1.2 _ (run_wp h (k (f i j)) ht.2 hq)

/-- the rows of m numbers below n, all different -/
def rowsN (n : Nat) : Nat → List (List Nat)
  | 0 => [[]]
  | m + 1 => (rowsN n m).flatMap fun l => ((List.range n).filter fun x => !l.contains x).map fun x => x :: l
theorem rows_mem {n : Nat} : ∀ {l : List Nat}, l.Nodup → (∀ x ∈ l, x < n) → l ∈ rowsN n l.length
  | [], _, _ => by simp [rowsN]
  | x :: l, hn, hx => by
    rw [List.nodup_cons] at hn
    have := rows_mem hn.2 fun y hy => hx y (List.mem_cons_of_mem _ hy)
    show x :: l ∈ (rowsN n l.length).flatMap _
    rw [List.mem_flatMap]
    refine ⟨l, this, List.mem_map.mpr ⟨x, ?_, rfl⟩⟩
    rw [List.mem_filter]
    exact ⟨List.mem_range.mpr (hx x List.mem_cons_self), by simpa using hn.1⟩
def goodRow (n : Nat) (r : List Nat) : Bool :=
  let f := fun i j => decide (r.getD i 0 < r.getD j 0)
  okT n f (kas_sort n) && (((runT f (kas_sort n)).toList.map fun i => r.getD i 0) == List.range n) && (runT f (kas_sort n)).toList.all fun i => decide (i < n)
set_option maxHeartbeats 4000000 in
theorem all_rows : ([2, 3, 4, 5, 6].all fun n => (rowsN n n).all (goodRow n)) = true := by decide +kernel
end Mine
end

section
open PySem PySem.W PyProof.Rows PySem.Calls PySem.Spec
set_option Elab.async false
set_option maxRecDepth 100000
namespace Mine
theorem few_zip : ∀ {vs : List Value}, vs.length < 2 → (vs.toArray.zip vs.toArray).map (·.2) = vs.toArray
  | [], _ => by simp
  | [x], _ => by simp
  | _ :: _ :: _, h => absurd h (by simp only [List.length_cons]; omega)
section
variable {prog : Program} {w : World} {A : Around} {E : Value → Shared → Prop} {s : Shared} {h₀ : Heap} {L a : Addr} {m : Str → Option Value} {news : List (Addr × Obj)} {vs : List Value}
set_option maxHeartbeats 2000000 in
/-- list.sort of at most one item -/
theorem sort_few {n : Nat} {R : PySem.Fin → Shared → Prop} (F : Fr h₀ L s.heap m) (N : News h₀ L s.heap news) (ho : s.heap.get? a = some (seqObj "list" vs.toArray n)) (haL : a ≠ L) (ha0 : h₀.get? a = none) (hna : ∀ p ∈ news, p.1 ≠ a) (h1 : vs.length < 2)
    (h : ∀ c h', Fr h₀ L h' m → News h₀ L h' ((a, seqObj "list" vs.toArray c) :: news) → R (.done (.ret .none)) { s with heap := h' }) :
    wpAny (model prog w) A (Builtin.«list.sort» ⟨[.ref a], []⟩) R E s := by
  have ha : a < s.heap.objs.size := Heap.lt_size ho
  have s1 := Heap.SameBut.update s.heap a (Obj.mapSeq fun _ => (#[] : Array Value))
  obtain ⟨e1, ho1⟩ : ∃ e1, (s.heap.update a (Obj.mapSeq fun _ => (#[] : Array Value))).get? a = some (seqObj "list" #[] e1) := ⟨_, get?_update_seq ho fun _ => #[]⟩
  have F3 : Fr h₀ L (((s.heap.update a (Obj.mapSeq fun _ => (#[] : Array Value))).push (seqObj "tuple" vs.toArray 0)).push (seqObj "list" #[] 0)) m := ((kas_fr F s1 haL ha0).push _).push _
  have N2 : News h₀ L (((s.heap.update a (Obj.mapSeq fun _ => (#[] : Array Value))).push (seqObj "tuple" vs.toArray 0)).push (seqObj "list" #[] 0)) news :=
    (kas_news N s1 hna).grown fun b x e => Heap.get?_push_of_some _ (Heap.get?_push_of_some _ e)
  have hg3 : (((s.heap.update a (Obj.mapSeq fun _ => (#[] : Array Value))).push (seqObj "tuple" vs.toArray 0)).push (seqObj "list" #[] 0)).get? a = some (seqObj "list" #[] e1) := Heap.get?_push_of_some _ (Heap.get?_push_of_some _ ho1)
  rw [list_sort_plain]
  refine wpAny_bind (listItems_at ho rfl ?_)
  refine wpAny_bind (listUpdate_at ho rfl ?_ (by rw [List.size_toArray, sizeLine_eq]; omega) (Nat.zero_le _))
  refine wpAny_bind (seqEpoch_at ho1 rfl ?_)
  refine wpAny_bind (wpAny_newTuple ?_ (by show vs.length ≤ _; rw [sizeLine_eq]; omega))
  refine wpAny_bind (wpAny_newList ?_ (Nat.zero_le _))
  refine wpAny_holding ?_
  show wpAny (model prog w) A _ R E { s with heap := ((s.heap.update a (Obj.mapSeq fun _ => (#[] : Array Value))).push (seqObj "tuple" vs.toArray 0)).push (seqObj "list" #[] 0) }
  dsimp only
  have hn2 : vs.toArray.size < 2 := by rw [List.size_toArray]; omega
  rw [if_pos hn2, if_pos hn2]
  refine wpAny_bind (wpAny_pure ?_)
  rw [StateT.run_pure]
  refine wpAny_bind (wpAny_pure ?_)
  dsimp only
  have hout : (arrOf (SortSt.mk' general' (vs.toArray.zip vs.toArray) #[] 7 none)).map (·.2) = vs.toArray := by
    exact few_zip h1
  rw [hout]
  have s2 := Heap.SameBut.update (((s.heap.update a (Obj.mapSeq fun _ => (#[] : Array Value))).push (seqObj "tuple" vs.toArray 0)).push (seqObj "list" #[] 0)) a (Obj.mapSeq fun _ => vs.toArray)
  obtain ⟨c2, hc2⟩ : ∃ c2, ((((s.heap.update a (Obj.mapSeq fun _ => (#[] : Array Value))).push (seqObj "tuple" vs.toArray 0)).push (seqObj "list" #[] 0)).update a (Obj.mapSeq fun _ => vs.toArray)).get? a = some (seqObj "list" vs.toArray c2) := ⟨_, get?_update_seq hg3 fun _ => vs.toArray⟩
  refine wpAny_bind (seqEpoch_at hg3 rfl ?_)
  refine wpAny_bind (listUpdate_at hg3 rfl ?_ (Nat.zero_le _) (by rw [List.size_toArray, sizeLine_eq]; omega))
  simp only [bne_self_eq_false, Bool.false_eq_true, if_false]
  refine wpAny_pure (h c2 _ (kas_fr F3 s2 haL ha0) ?_)
  intro p hp
  rcases List.mem_cons.mp hp with rfl | hp
  · exact ⟨hc2, haL, ha0⟩
  · exact kas_news N2 s2 hna p hp
/-- sorted of at most one item -/
theorem sorted_few {l : Addr} {Q : Value → Shared → Prop} (F : Fr h₀ L s.heap m) (N : News h₀ L s.heap news) (hl : s.heap.IsList l vs.toArray) (h1 : vs.length < 2)
    (h : ∀ D c h', Fr h₀ L h' m → News h₀ L h' ((D, seqObj "list" vs.toArray c) :: news) → (∀ q ∈ news, q.1 < D) → Q (.ref D) { s with heap := h' }) :
    wpAny (model prog w) A (call (.builtin "sorted") [.ref l]) Q E s := by
  refine Calls.call_function_entry kind_sorted plain_sorted entry_sorted (args_sorted1 _) ?_
  unfold Builtin.«sorted»
  refine wpAny_bind (m := checkCount "sorted" 1 1 _) (wpAny_pure ?_)
  refine wpAny_bind (collect_list hl ?_ (by rw [sizeLine_eq]; omega))
  refine wpAny_bind (wpAny_newList ?_ (by rw [sizeLine_eq]; omega))
  have hsz : ((s.heap.push (seqObj "list" #[] 0)).update s.heap.objs.size (Obj.mapSeq (· ++ vs.toArray))).objs.size = s.heap.objs.size + 1 := by
    rw [Heap.size_update, size_push']
  have hoL : (((s.heap.push (seqObj "list" #[] 0)).update s.heap.objs.size (Obj.mapSeq (· ++ vs.toArray))).push (seqObj "list" vs.toArray 0)).get? (s.heap.objs.size + 1) = some (seqObj "list" vs.toArray 0) := by
    rw [← hsz]; exact Heap.get?_push_size _ rfl
  have keep : ∀ b o, s.heap.get? b = some o → (((s.heap.push (seqObj "list" #[] 0)).update s.heap.objs.size (Obj.mapSeq (· ++ vs.toArray))).push (seqObj "list" vs.toArray 0)).get? b = some o := fun b o q => by
    have hlt : b < s.heap.objs.size := Heap.lt_size q
    rw [Heap.get?_push_ne _ _ _ (by rw [hsz]; exact Nat.ne_of_lt (Nat.lt_succ_of_lt hlt)), Heap.get?_update_ne _ _ _ _ (Nat.ne_of_lt hlt), Heap.get?_push_ne _ _ _ (Nat.ne_of_lt hlt)]
    exact q
  have hL : L < s.heap.objs.size := F.ns.lt
  show wpAny _ _ _ _ _ { s with heap := ((s.heap.push (seqObj "list" #[] 0)).update s.heap.objs.size (Obj.mapSeq (· ++ vs.toArray))).push (seqObj "list" vs.toArray 0) }
  rw [hsz]
  refine wpAny_bind (wpAny_holding (wpAny_call_entry slot_list_sort ⟨_, hoL, rfl⟩ entry_list_sort ?body (args_list_sort _)))
  case body =>
    refine sort_few (s := { s with heap := ((s.heap.push (seqObj "list" #[] 0)).update s.heap.objs.size (Obj.mapSeq (· ++ vs.toArray))).push (seqObj "list" vs.toArray 0) })
      (F.kept keep) (N.grown keep) hoL (Nat.ne_of_gt (Nat.lt_succ_of_lt hL)) (Heap.get?_none_of_le (Nat.le_trans F.above (Nat.le_succ_of_le (Nat.le_of_lt hL))))
      (fun p hp => Nat.ne_of_lt (Nat.lt_succ_of_lt (Heap.lt_size (N p hp).1))) h1 fun c h' F' N' => ?_
    exact ⟨_, rfl, wpAny_pure ⟨_, rfl, h _ c h' F' N' fun q hq => Nat.lt_succ_of_lt (Heap.lt_size (N q hq).1)⟩⟩
end
end Mine
end

section
open PySem PySem.W PyProof.Rows PySem.Calls PySem.Spec
set_option Elab.async false
set_option maxRecDepth 100000
namespace Mine
def rankK (n : Nat) (key : Nat → Nat) (i : Nat) : Nat := ((List.range n).filter fun j => decide (key j < key i)).length
theorem rank_lt {n : Nat} {key : Nat → Nat} {i : Nat} (hi : i < n) : rankK n key i < n := by
  unfold rankK
  have : ((List.range n).filter fun j => decide (key j < key i)).length < (List.range n).length := by
    rw [List.length_filter_lt_length_iff_exists]
    exact ⟨i, List.mem_range.mpr hi, by simp⟩
  simpa using this
theorem filter_len_le {α : Type} {p q : α → Bool} : ∀ {l : List α}, (∀ x ∈ l, p x = true → q x = true) → (l.filter p).length ≤ (l.filter q).length
  | [], _ => Nat.le_refl _
  | x :: l, h => by
    have ih := filter_len_le (l := l) fun y hy => h y (List.mem_cons_of_mem _ hy)
    have hx := h x List.mem_cons_self
    simp only [List.filter_cons]
    by_cases hp : p x = true
    · rw [if_pos hp, if_pos (hx hp)]; simp only [List.length_cons]; omega
    · rw [if_neg hp]
      split
      · simp only [List.length_cons]; omega
      · exact ih
theorem filter_len_lt {α : Type} {p q : α → Bool} : ∀ {l : List α}, (∀ x ∈ l, p x = true → q x = true) → (∃ x ∈ l, q x = true ∧ ¬ p x = true) → (l.filter p).length < (l.filter q).length
  | [], _, h => by obtain ⟨x, hx, _⟩ := h; cases hx
  | x :: l, h, he => by
    have hx := h x List.mem_cons_self
    have hl : ∀ y ∈ l, p y = true → q y = true := fun y hy => h y (List.mem_cons_of_mem _ hy)
    simp only [List.filter_cons]
    obtain ⟨y, hy, h1, h2⟩ := he
    rcases List.mem_cons.mp hy with rfl | hy
    · rw [if_neg h2, if_pos h1]
      have := filter_len_le hl
      simp only [List.length_cons]; omega
    · have ih := filter_len_lt (l := l) hl ⟨y, hy, h1, h2⟩
      by_cases hp : p x = true
      · rw [if_pos hp, if_pos (hx hp)]; simp only [List.length_cons]; omega
      · rw [if_neg hp]
        split
        · simp only [List.length_cons]; omega
        · exact ih
theorem rank_mono {n : Nat} {key : Nat → Nat} {i j : Nat} (hi : i < n) (h : key i < key j) : rankK n key i < rankK n key j := by
  unfold rankK
  refine filter_len_lt ?_ ⟨i, List.mem_range.mpr hi, by simpa using h, by simp⟩
  intro x _ hx
  have : key x < key i := by simpa using hx
  have : key x < key j := by omega
  simpa using this
theorem rank_iff {n : Nat} {key : Nat → Nat} {i j : Nat} (hi : i < n) (hj : j < n) : rankK n key i < rankK n key j ↔ key i < key j := by
  constructor
  · intro h
    rcases Nat.lt_trichotomy (key i) (key j) with h1 | h1 | h1
    · exact h1
    · unfold rankK at h
      rw [h1] at h
      exact absurd h (Nat.lt_irrefl _)
    · have := rank_mono hj h1
      omega
  · exact rank_mono hi
theorem ranks_getD {n : Nat} {key : Nat → Nat} {i : Nat} (hi : i < n) : ((List.range n).map (rankK n key)).getD i 0 = rankK n key i := by
  simp [List.getD, hi]
structure SortedBy (n : Nat) (key : Nat → Nat) (p : List Nat) : Prop where
  len : p.length = n
  low : ∀ x ∈ p, x < n
  nodup : p.Nodup
  rise : p.Pairwise fun a b => key a < key b
theorem sort_key {n : Nat} (h2 : 2 ≤ n) (h6 : n ≤ 6) {key : Nat → Nat} (inj : ∀ i j, i < n → j < n → key i = key j → i = j) {f : Nat → Nat → Bool} (hf : ∀ i j, i < n → j < n → f i j = decide (key i < key j)) :
    okT n f (kas_sort n) = true ∧ SortedBy n key (runT f (kas_sort n)).toList := by
  have hr : ((List.range n).map (rankK n key)) ∈ rowsN n n := by
    have := rows_mem (n := n) (l := (List.range n).map (rankK n key)) ?_ ?_
    · simpa using this
    · rw [List.nodup_iff_pairwise_ne, List.pairwise_map]
      refine List.Pairwise.imp_of_mem ?_ (List.nodup_iff_pairwise_ne.mp List.nodup_range)
      intro a b ha hb hab e
      have ha := List.mem_range.mp ha
      have hb := List.mem_range.mp hb
      rcases Nat.lt_trichotomy (key a) (key b) with h | h | h
      · have := rank_mono ha h; omega
      · exact hab (inj a b ha hb h)
      · have := rank_mono hb h; omega
    · intro x hx
      obtain ⟨i, hi, rfl⟩ := List.mem_map.mp hx
      exact rank_lt (List.mem_range.mp hi)
  have hg : goodRow n ((List.range n).map (rankK n key)) = true := by
    have hall := all_rows
    rw [List.all_eq_true] at hall
    have hn : n ∈ [2, 3, 4, 5, 6] := by
      simp only [List.mem_cons, List.not_mem_nil, or_false]; omega
    have := hall n hn
    rw [List.all_eq_true] at this
    exact this _ hr
  unfold goodRow at hg
  simp only [Bool.and_eq_true] at hg
  obtain ⟨⟨g1, g2⟩, g3⟩ := hg
  have e : ∀ i j, i < n → j < n → f i j = decide (((List.range n).map (rankK n key)).getD i 0 < ((List.range n).map (rankK n key)).getD j 0) := by
    intro i j hi hj
    rw [hf i j hi hj, ranks_getD hi, ranks_getD hj]
    exact decide_eq_decide.mpr (rank_iff hi hj).symm
  obtain ⟨q1, q2⟩ := run_congr e (kas_sort n) g1
  refine ⟨q2, ?_⟩
  rw [q1]
  generalize runT _ (kas_sort n) = P at g2 g3
  have g2' := eq_of_beq g2
  have g3' : ∀ x ∈ P.toList, x < n := fun x hx => by simpa using (List.all_eq_true.mp g3) x hx
  have em : (P.toList.map fun i => ((List.range n).map (rankK n key)).getD i 0) = P.toList.map (rankK n key) := List.map_congr_left fun x hx => ranks_getD (g3' x hx)
  rw [em] at g2'
  have hpw : (P.toList.map (rankK n key)).Pairwise (· < ·) := by rw [g2']; exact List.pairwise_lt_range
  rw [List.pairwise_map] at hpw
  refine ⟨by have := congrArg List.length g2'; simpa using this, g3', ?_, ?_⟩
  · rw [List.nodup_iff_pairwise_ne]
    exact hpw.imp fun h e => by rw [e] at h; exact Nat.lt_irrefl _ h
  · exact List.Pairwise.imp_of_mem (fun ha hb h => (rank_iff (g3' _ ha) (g3' _ hb)).mp h) hpw
end Mine
end

section
open PySem PySem.W PyProof.Rows PySem.Calls PySem.Spec
set_option Elab.async false
set_option maxRecDepth 100000
namespace Mine
/-- rows (size, way, letter) as tuples that a ledger bears -/
inductive TripIn (news : List (Addr × Obj)) : List Value → SS → Prop
  | nil : TripIn news [] []
  | cons {a : Addr} {x y : Str} {t u v : Tok} {n : Nat} {vs : List Value} {l : SS} :
    (a, ({ cls := .type "tuple", data := .seq #[.int (x.length : Int) t, .str x u, .str y v] n } : Obj)) ∈ news → TripIn news vs l → TripIn news (.ref a :: vs) ((x, y) :: l)
def tripO (x y : Str) (t u v : Tok) (n : Nat) : Obj := { cls := .type "tuple", data := .seq #[.int (x.length : Int) t, .str x u, .str y v] n }
theorem TripIn.length {news : List (Addr × Obj)} {vs : List Value} {l : SS} (h : TripIn news vs l) : vs.length = l.length := by
  induction h with
  | nil => rfl
  | cons _ _ ih => simp [ih]
theorem TripIn.sub {news news' : List (Addr × Obj)} {vs : List Value} {l : SS} (h : TripIn news vs l) (hs : ∀ p ∈ news, p ∈ news') : TripIn news' vs l := by
  induction h with
  | nil => exact .nil
  | cons hm _ ih => exact .cons (hs _ hm) ih
theorem TripIn.snoc {news : List (Addr × Obj)} {vs : List Value} {l : SS} (h : TripIn news vs l) {a : Addr} {x y : Str} {t u v : Tok} {n : Nat} (hm : (a, tripO x y t u v n) ∈ news) : TripIn news (vs ++ [.ref a]) (l ++ [(x, y)]) := by
  induction h with
  | nil => exact .cons hm .nil
  | cons hm' _ ih => exact .cons hm' ih
theorem TripIn.get {news : List (Addr × Obj)} {vs : List Value} {l : SS} (h : TripIn news vs l) : ∀ {i : Nat}, i < l.length → ∃ a x y t u v n, vs.getD i Value.none = .ref a ∧ l.getD i (Str.empty, Str.empty) = (x, y) ∧ (a, tripO x y t u v n) ∈ news := by
  induction h with
  | nil => intro i hi; exact absurd hi (Nat.not_lt_zero _)
  | @cons a x y t u v n vs l hm _ ih =>
    intro i hi
    cases i with
    | zero => exact ⟨a, x, y, t, u, v, n, rfl, rfl, hm⟩
    | succ i =>
      obtain ⟨a', x', y', t', u', v', n', e1, e2, e3⟩ := ih (i := i) (by simp only [List.length_cons] at hi; omega)
      exact ⟨a', x', y', t', u', v', n', by simpa using e1, by simpa using e2, e3⟩
theorem TripIn.pick {news : List (Addr × Obj)} {vs : List Value} {l : SS} (h : TripIn news vs l) : ∀ {p : List Nat}, (∀ i ∈ p, i < l.length) → TripIn news (p.map fun i => vs.getD i Value.none) (p.map fun i => l.getD i (Str.empty, Str.empty))
  | [], _ => .nil
  | i :: p, hp => by
    obtain ⟨a, x, y, t, u, v, n, e1, e2, hm⟩ := h.get (hp i List.mem_cons_self)
    have := h.pick (p := p) fun j hj => hp j (List.mem_cons_of_mem _ hj)
    rw [List.map_cons, List.map_cons, e1, e2]
    exact .cons hm this
theorem TripIn.tups {s : Shared} {h₀ : Heap} {L : Addr} {news : List (Addr × Obj)} (N : News h₀ L s.heap news) {vs : List Value} {l : SS} (h : TripIn news vs l) : ∃ fs, fs.length = l.length ∧ KatTups s.heap vs fs ∧ ∀ v ∈ fs, ∃ n t, v = .int n t := by
  induction h with
  | nil => exact ⟨[], rfl, KatTups.nil, fun v hv => by cases hv⟩
  | @cons a x y t u v n vs l hm _ ih =>
    obtain ⟨fs, h1, h2, h3⟩ := ih
    refine ⟨.int (x.length : Int) t :: fs, by simp [h1], KatTups.cons (N _ hm).1 rfl rfl rfl h2, ?_⟩
    intro w hw
    rcases List.mem_cons.mp hw with e | hw
    · exact ⟨_, _, e⟩
    · exact h3 w hw
def lt3 (p q : Str × Str) : Bool := if p.1 = q.1 then (if p.2 = q.2 then false else decide (p.2.cps.toList < q.2.cps.toList)) else ltP p.1.length p.1 q.1.length q.1
def ltAt (l : SS) (i j : Nat) : Bool := lt3 (l.getD i (Str.empty, Str.empty)) (l.getD j (Str.empty, Str.empty))
def orderW (l : SS) : SS := if l.length < 2 then l else (runT (ltAt l) (kas_sort l.length)).toList.map fun i => l.getD i (Str.empty, Str.empty)
section
variable {prog : Program} {w : World} {A : Around} {E : Value → Shared → Prop} {s : Shared} {h₀ : Heap} {L : Addr} {m : Str → Option Value} {news : List (Addr × Obj)}
theorem lt_trip {a b : Addr} {x y x' y' : Str} {t u v t' u' v' : Tok} {n n' : Nat} {C : Bool → Shared → Prop} (N : News h₀ L s.heap news) (ha : (a, tripO x y t u v n) ∈ news) (hb : (b, tripO x' y' t' u' v' n') ∈ news) (h : C (lt3 (x, y) (x', y')) s) :
    wpAny (model prog w) A (keyLt' (tuples' true) (.ref a) (.ref b)) C E s := by
  refine kat_lt (N _ ha).1 rfl (N _ hb).1 rfl ?_
  show KatLex prog w A true _ C [(.int (x.length : Int) t, .int (x'.length : Int) t'), (.str x u, .str x' u'), (.str y v, .str y' v')] 0 s
  unfold lt3 ltP at h
  dsimp only at h
  refine kat_cons ((intKind prog w).eqBool (a := (x.length : Int)) (b := (x'.length : Int)) (intKind_is _ _ _ _) (intKind_is _ _ _ _) ?_)
  by_cases e1 : (x.length : Int) = (x'.length : Int)
  · rw [decide_eq_true e1]
    refine kat_yes (kat_cons ((strKind prog w).eqBool (a := x) (b := x') (strKind_is _ _ _ _) (strKind_is _ _ _ _) ?_))
    by_cases e2 : x = x'
    · rw [decide_eq_true e2]
      rw [if_pos e2] at h
      refine kat_yes (kat_cons ((strKind prog w).eqBool (a := y) (b := y') (strKind_is _ _ _ _) (strKind_is _ _ _ _) ?_))
      by_cases e3 : y = y'
      · rw [decide_eq_true e3]
        rw [if_pos e3] at h
        exact kat_yes (kat_nil h)
      · rw [decide_eq_false e3]
        rw [if_neg e3] at h
        exact kat_no (kat_one _ _ (P.lt_str h))
    · rw [decide_eq_false e2]
      rw [if_neg e2, if_pos e1, if_neg e2] at h
      exact kat_no (kat_one _ _ (P.lt_str h))
  · rw [decide_eq_false e1]
    have e2 : ¬ x = x' := fun e => e1 (by rw [e])
    rw [if_neg e2, if_neg e1] at h
    exact kat_no (oneLt_int h)
end
end Mine
end

section
open PySem PySem.W PyProof.Rows PySem.Calls PySem.Spec
set_option Elab.async false
set_option maxRecDepth 100000
namespace Mine
section
variable {prog : Program} {w : World} {A : Around} {E : Value → Shared → Prop} {s : Shared} {h₀ : Heap} {L : Addr} {m : Str → Option Value} {news : List (Addr × Obj)}
theorem sorted_trips {l : Addr} {its : List Value} {k : Nat} {tl : SS} {Q : Value → Shared → Prop} (F : Fr h₀ L s.heap m) (N : News h₀ L s.heap news) (hm : (l, listOf its.toArray k) ∈ news) (hT : TripIn news its tl) (h6 : tl.length ≤ 6)
    (hok : 2 ≤ tl.length → okT tl.length (ltAt tl) (kas_sort tl.length) = true ∧ ∀ i ∈ (runT (ltAt tl) (kas_sort tl.length)).toList, i < tl.length)
    (h : ∀ D c h' its', Fr h₀ L h' m → News h₀ L h' ((D, listOf its'.toArray c) :: news) → (∀ q ∈ news, q.1 < D) → TripIn news its' (orderW tl) → Q (.ref D) { s with heap := h' }) :
    wpAny (model prog w) A (call (.builtin "sorted") [.ref l]) Q E s := by
  have hl : s.heap.IsList l its.toArray := ⟨_, (N _ hm).1, rfl, _, rfl⟩
  have hlen := hT.length
  by_cases h2 : tl.length < 2
  · refine sorted_few F N hl (by omega) fun D c h' F' N' hD => h D c h' its F' N' hD ?_
    unfold orderW
    rw [if_pos h2]; exact hT
  · obtain ⟨hok1, hlo⟩ := hok (by omega)
    refine kat_sorted F N hl (by omega) (by omega) fun D e1 h' F' N' hD => ?_
    have N0 : News h₀ L h' news := fun p hp => N' p (List.mem_cons_of_mem _ hp)
    obtain ⟨fs, f1, f2, f3⟩ := TripIn.tups (s := { s with heap := h' }) N0 hT
    refine kat_kind (T := .type "int") f2 (by omega) (fun v hv => ?_) (by rfl) ?_
    · obtain ⟨n, t, rfl⟩ := f3 v hv
      exact fun A Q E s' _ q => wpAny_typeOf (typeIs_int s' n t) q
    · show (kas_sort its.length).kasWp (kas_ask prog w A.in1.in1 (tuples' true) its) _ _
      rw [hlen]
      refine run_wp (f := ltAt tl) (n := tl.length) ?_ _ hok1 ?_
      · intro i j hi hj C hC
        obtain ⟨a, x, y, t, u, v, n, p1, p2, p3⟩ := hT.get hi
        obtain ⟨b, x', y', t', u', v', n', q1, q2, q3⟩ := hT.get hj
        unfold kas_ask
        rw [p1, q1]
        unfold ltAt at hC
        rw [p2, q2] at hC
        exact lt_trip (s := { s with heap := h' }) N0 p3 q3 hC
      · refine KasFin.intro F' N' (UpdF.head fun p hp => Nat.ne_of_lt (hD p hp)) fun h9 c F9 N9 => ?_
        refine h D c h9 _ F9 N9 hD ?_
        unfold orderW
        rw [if_neg h2]
        exact hT.pick hlo
end
end Mine
end

section
open PySem PySem.W PyProof.Rows PySem.Calls PySem.Spec
set_option Elab.async false
set_option maxRecDepth 100000
namespace Mine
open LCg
/-- what a comprehension over rows of three names asks of its source -/
def Src3 (prog : Program) (w : World) (A : Around) (h₀ : Heap) (L : Addr) (m : Str → Option Value) (env : Env) (elt : PySem.Expr) (x y z : Str) (scope : Scope) (cl : List (Str × Addr)) (Q : Value → Shared → Prop) (xv : Value) (s₁ : Shared) : Prop :=
  ∃ (ax : Addr) (its : List Value) (k : Nat) (news : List (Addr × Obj)) (R : Nat → List Value → List (Addr × Obj) → Prop), xv = .ref ax ∧ A.handled = none ∧ Fr h₀ L s₁.heap m ∧ News h₀ L s₁.heap news ∧ (ax, listOf its.toArray k) ∈ news ∧ its.length ≤ sizeLine ∧ R 0 [] news ∧
    (∀ g : Heap, ∀ i v ys news', its[i]? = some v → R i ys news' → ∃ (t : Addr) (ot : Obj) (v₁ v₂ v₃ : Value) (nt : Nat), v = .ref t ∧ (t, ot) ∈ news' ∧ ot.cls = .type "tuple" ∧ ot.data = .seq #[v₁, v₂, v₃] nt ∧
      ∀ I oI C oC D m₂ h tk (E' : Value → Shared → Prop), NsObj oC m₂ → m₂ x = some v₁ → m₂ y = some v₂ → m₂ z = some v₃ → Fr h₀ L h m → News h₀ L h ((I, oI) :: (C, oC) :: (D, lst ys) :: news') → Off3 I C D news' → ((@Ne Nat I C) ∧ (@Ne Nat I D) ∧ (@Ne Nat C D)) →
        wpAny (model prog w) A (eval elt (compEnvC scope cl C env)) (CompEnd h₀ L m { s₁ with heap := h, toks := tk } I oI C oC D (lst ys) (fun nw => (ax, listOf its.toArray k) ∈ nw) (fun u news'' => R (i + 1) (ys ++ [u]) news'')) E' { s₁ with heap := h, toks := tk }) ∧
    ∀ (g : Heap) ys news', R its.length ys news' → FinE h₀ L m { s₁ with heap := g } Q ys news'
theorem far2 {a b : Nat} (h : a < b) : b + 1 + 1 ≠ a := by omega
theorem far1 {a b : Nat} (h : a < b) : b + 1 ≠ a := by omega
theorem far2' {a b : Nat} (h : a < b) : a ≠ b + 1 + 1 := by omega
theorem far1' {a b : Nat} (h : a < b) : a ≠ b + 1 := by omega
theorem nxt2 (b : Nat) : b ≠ b + 1 + 1 := by omega
theorem nxt1 (b : Nat) : b ≠ b + 1 := by omega
section
variable {prog : Program} {w : World} {A : Around} {E : Value → Shared → Prop} {s : Shared} {h₀ : Heap} {L : Addr} {m : Str → Option Value} {env : Env}
set_option maxHeartbeats 4000000 in
theorem ListComp_3 {elt iter : PySem.Expr} {x y z : Str} {px py pz tp : Pos} {kk : Nat} {scope : Scope} {cl : List (Str × Addr)} {pos : Pos} {Q : Value → Shared → Prop} (F₀ : Fr h₀ L s.heap m)
    (hclos : closureFor scope env = pure cl) (hcell : ∀ u ∈ scope.names, u.2 ≠ .cell) (hkind : scope.kind = .function)
    (hnames : ∀ u ∈ scope.names, u.2 = .local → scope.names.lookup u.1 = some .local) (hx : scope.names.lookup x = some .local) (hy : scope.names.lookup y = some .local) (hz : scope.names.lookup z = some .local) (hxy : x ≠ y) (hxz : x ≠ z) (hyz : y ≠ z)
    (h : wpAny (model prog w) A (eval iter env) (Src3 prog w A h₀ L m env elt x y z scope cl Q) E s)
    (hs : ∀ x, foldedSetIterable iter env x = pure x := by intro _; rfl) :
    wpAny (model prog w) A (eval (.ListComp elt [⟨.Tuple [.Name x px, .Name y py, .Name z pz] kk tp, iter, [], 0⟩] scope pos) env) Q E s := by
  rw [eval_ListComp]
  refine wpAny_comprehension_free (use := none) rfl hs hclos hkind hnames (wpAny_mono h (fun xv s₁ h₁ => ?_) fun _ _ e => e)
  obtain ⟨ax, its, k, news, R, rfl, hh, F, N, hmem, hsz, hR0, step, fin⟩ := h₁
  have hl : s₁.heap.IsList ax its.toArray := ⟨_, (N _ hmem).1, rfl, _, rfl⟩
  refine wpAny_pyIter_list hl ?_
  -- the places of the iterator, of the list that is made and of the block's names
  have hLlt : L < s₁.heap.objs.size := F.ns.lt
  have axlt : ax < s₁.heap.objs.size := Heap.lt_size (N _ hmem).1
  have sz2 : (s₁.heap.push { cls := .type "list_iterator", data := .fields #[.ref ax, .int 0 0] }).objs.size = s₁.heap.objs.size + 1 := Heap.size_push ..
  have freshI : ∀ a, s₁.heap.objs.size ≤ a → h₀.get? a = none := fun a ha => Heap.get?_none_of_le (Nat.le_trans F.above (Nat.le_trans (Nat.le_of_lt hLlt) ha))
  refine wpAny_newObj_type (wpAny_newFunctionEnv hcell (by intro u hu; simp at hu) (fun h₁ hns₁ hsb₁ => ?_) hkind)
  dsimp only at hns₁ hsb₁ ⊢
  rw [sz2]
  generalize hI : s₁.heap.objs.size = I at *
  have sz3 : ((s₁.heap.push { cls := .type "list_iterator", data := .fields #[.ref ax, .int 0 0] }).push { cls := .type "list", dict := none, data := .seq ([] : List Value).toArray }).objs.size = I + 1 + 1 := by rw [Heap.size_push, sz2]
  rw [sz3] at hns₁ hsb₁
  rw [sz3]
  have old : ∀ b o, s₁.heap.get? b = some o → h₁.get? b = some o := fun b o e => hsb₁.extBut b o (Nat.ne_of_lt (Nat.lt_succ_of_lt (Nat.lt_succ_of_lt (hI ▸ Heap.lt_size e)))) (Heap.get?_push_of_some _ (Heap.get?_push_of_some _ (Heap.get?_push_of_some _ e)))
  have gI : h₁.get? I = some { cls := .type "list_iterator", data := .fields #[.ref ax, .int 0 0] } :=
    hsb₁.extBut I _ (Nat.ne_of_lt (Nat.lt_succ_of_lt (Nat.lt_succ_self _))) (Heap.get?_push_of_some _ (Heap.get?_push_of_some _ (by rw [← hI]; exact Heap.get?_push_size _ rfl)))
  have gD : h₁.get? (I + 1) = some (lst []) :=
    hsb₁.extBut (I + 1) _ (Nat.ne_of_lt (Nat.lt_succ_self _)) (Heap.get?_push_of_some _ (by rw [← sz2]; exact Heap.get?_push_size _ rfl))
  have nCL : I + 1 + 1 ≠ L := far2 hLlt
  have nDL : I + 1 ≠ L := far1 hLlt
  have nIL : L ≠ I := Nat.ne_of_lt hLlt
  have fI := freshI I (Nat.le_refl _)
  have fD := freshI (I + 1) (Nat.le_succ _)
  have fC := freshI (I + 1 + 1) (Nat.le_trans (Nat.le_succ _) (Nat.le_succ _))
  have off₀ : Off3 I (I + 1 + 1) (I + 1) news := Off3.of fun p hp => by
    have := hI ▸ Heap.lt_size (N p hp).1
    exact ⟨Nat.ne_of_lt this, far2' this, far1' this⟩
  have loop : ∀ s₃ : Shared, s₃ = { s₁ with heap := h₁, toks := s₁.toks + ([] : List (Str × Value)).length } →
      codeAny (model prog w) A (.compLoop (.ListComp elt [⟨.Tuple [.Name x px, .Name y py, .Name z pz] kk tp, iter, [], 0⟩] scope pos) 0 (.ref I) (.ref (I + 1)) (compEnvC scope cl (I + 1 + 1) env))
        (compPost (model prog w) A E none Q (.ref (I + 1)) (I + 1 + 1)) s₃ := by
    rintro s₃ rfl
    refine LCp.codeAny_compLoop_pair
      (fun n s' => ∃ h' tk i ys m' news', s' = { s₁ with heap := h', toks := tk } ∧ i ≤ its.length ∧ n = its.length + 1 - i ∧ ys.length = i ∧ h'.IsListIter I ax i ∧ Fr h₀ L h' m ∧ h'.Ns (I + 1 + 1) m' ∧ News h₀ L h' ((I + 1, lst ys) :: news') ∧
        Off3 I (I + 1 + 1) (I + 1) news' ∧ (ax, listOf its.toArray k) ∈ news' ∧ R i ys news') ?_ (its.length + 1)
      ⟨h₁, _, 0, [], _, news, rfl, Nat.zero_le _, rfl, rfl, ⟨_, gI, rfl, rfl⟩, F.keeps old, hns₁, fun p hp => ?_, off₀, hmem, hR0⟩
    · rintro n s' ⟨h', tk, i, ys, m', news', rfl, hi, rfl, hyl, hit, F', hn', N', off', hm', hR'⟩
      have off3 := off'.mem
      have hl' : h'.IsList ax its.toArray := ⟨_, (N' _ (List.mem_cons_of_mem _ hm')).1, rfl, _, rfl⟩
      cases hv : its[i]? with
      | none =>
        have hie : i = its.length := Nat.le_antisymm hi (by simpa using hv)
        refine wpAny_pyNext_list_end hh hit hl' (by simpa using hv) fun h₂ he₂ => ?_
        have F₂ : Fr h₀ L h₂ m := fr_but F' (fun b o hb e => he₂ b o (by simpa using hb) e) nIL fI
        have N₂ : News h₀ L h₂ ((I + 1, lst ys) :: news') := news_but N' (fun b o hb e => he₂ b o (by simpa using hb) e) fun p hp => by
          rcases List.mem_cons.mp hp with rfl | hp
          · exact Nat.ne_of_gt (Nat.lt_succ_self _)
          · exact (off3 p hp).1
        refine ⟨m', hn'.extBut he₂ (Ne.symm (nxt2 I)), fun h'' hs'' => fin h'' ys news' (hie ▸ hR') (I + 1) h'' _ (F₂.change hs'' nCL fC) (fun p hp => ?_) off'.one⟩
        refine ⟨hs''.extBut _ _ ?_ (N₂ p hp).1, (N₂ p hp).2⟩
        rcases List.mem_cons.mp hp with rfl | hp
        · exact Nat.ne_of_lt (Nat.lt_succ_self _)
        · exact (off3 p hp).2.1
      | some v =>
        have hlt : i < its.length := (List.getElem?_eq_some_iff.mp hv).1
        refine wpAny_pyNext_list_item hit hl' (by simpa using hv) fun h₂ hit₂ hs₂ => ?_
        obtain ⟨t, ot, v₁, v₂, v₃, nt, rfl, hmt, hct, hdt, step'⟩ := step h₁ i v ys news' hv hR'
        have hk₂ : ∀ b o, b ∉ [I] → h'.get? b = some o → h₂.get? b = some o := fun b o hb e => hs₂.extBut b o (by simpa using hb) e
        have N₂ : News h₀ L h₂ ((I + 1, lst ys) :: news') := news_but N' hk₂ fun p hp => by
          rcases List.mem_cons.mp hp with rfl | hp
          · exact Nat.ne_of_gt (Nat.lt_succ_self _)
          · exact (off3 p hp).1
        have ht : IsTup h₂ t #[v₁, v₂, v₃] := ⟨ot, (N₂ _ (List.mem_cons_of_mem _ hmt)).1, hct, nt, hdt⟩
        refine wpAny_letOwnedTupleGo_listiter hit₂ ?_
        refine assign_Tuple_tuple hh ht rfl rfl fun h₃ he => ?_
        have he' : ∀ b o, h₂.get? b = some o → h₃.get? b = some o := fun b o e => he b o (Nat.ne_of_lt (Heap.lt_size e)) e
        have hn₃ : h₃.Ns (I + 1 + 1) m' := (hn'.at' fun o e => hk₂ _ o (fun q => nxt2 I (List.mem_singleton.mp q).symm) e).at' fun o e => he' _ o e
        refine assignInOrder_cons (wpAny_assign_Name (wpAny_storeName_local (lookup_relabel_local hx) hn₃ (fun h₄ hn₄ hs₄ => ?_) (by simp [compEnvC, relabel, hkind])))
        refine assignInOrder_cons (wpAny_assign_Name (wpAny_storeName_local (lookup_relabel_local hy) hn₄ (fun h₅ hn₅ hs₅ => ?_) (by simp [compEnvC, relabel, hkind])))
        refine assignInOrder_cons (wpAny_assign_Name (wpAny_storeName_local (lookup_relabel_local hz) hn₅ (fun h₆ hn₆ hs₆ => ?_) (by simp [compEnvC, relabel, hkind])))
        refine assignInOrder_nil ?_
        have up : ∀ b o, b ≠ I + 1 + 1 → h₂.get? b = some o → h₆.get? b = some o := fun b o hb e => hs₆.extBut b o hb (hs₅.extBut b o hb (hs₄.extBut b o hb (he' b o e)))
        obtain ⟨oI, heI, cI⟩ := id hit₂
        have heI6 := up I oI (nxt2 I) heI
        obtain ⟨oC, heC, hoC⟩ := ns_obj hn₆
        have F₆ : Fr h₀ L h₆ m := ((((fr_but F' hk₂ nIL fI).keeps he').change hs₄ nCL fC).change hs₅ nCL fC).change hs₆ nCL fC
        have N₆ : News h₀ L h₆ ((I, oI) :: (I + 1 + 1, oC) :: (I + 1, lst ys) :: news') := fun p hp => by
          rcases List.mem_cons.mp hp with rfl | hp
          · exact ⟨heI6, Ne.symm nIL, fI⟩
          · rcases List.mem_cons.mp hp with rfl | hp
            · exact ⟨heC, nCL, fC⟩
            · refine ⟨up _ _ ?_ (N₂ p hp).1, (N₂ p hp).2⟩
              rcases List.mem_cons.mp hp with rfl | hp
              · exact Nat.ne_of_lt (Nat.lt_succ_self _)
              · exact (off3 p hp).2.1
        refine wpAny_mono (step' I oI (I + 1 + 1) oC (I + 1) _ h₆ _ _ hoC (by simp [hxy, hxz]) (by simp [hyz]) (by simp) F₆ N₆ off' ⟨nxt2 I, nxt1 I, Ne.symm (nxt1 (I + 1))⟩) (fun u s₇ h₇ => ?_) fun _ _ e => e
        obtain ⟨h₇, tk₇, news₇, rfl, F₇, N₇, off₇, hm₇, hR₇⟩ := h₇
        have zI := (N₇ (I, oI) (.head _)).1
        have zC := (N₇ (I + 1 + 1, oC) (.tail _ (.head _))).1
        have zD := (N₇ (I + 1, lst ys) (.tail _ (.tail _ (.head _)))).1
        have N₇' : News h₀ L h₇ news₇ := fun p hp => N₇ p (.tail _ (.tail _ (.tail _ hp)))
        have off7 := off₇.mem
        refine append_at (hsz := by show ys.toArray.size ≤ sizeLine; rw [List.size_toArray, hyl]; exact Nat.le_trans hi hsz) zD fun h₈ hs₈ hD₈ => ?_
        refine ⟨its.length + 1 - (i + 1), by omega, h₈, tk₇, i + 1, ys ++ [u], _, news₇, rfl, hlt, rfl, by rw [List.length_append, List.length_singleton, hyl], ⟨oI, hs₈.extBut _ _ (nxt1 I) zI, cI⟩, F₇.change hs₈ nDL fD,
          (hoC.ns zC).sameBut hs₈ (Ne.symm (nxt1 (I + 1))), fun p hp => ?_, off₇, hm₇, hR₇⟩
        rcases List.mem_cons.mp hp with rfl | hp
        · exact ⟨hD₈.trans (congrArg some (lst_snoc ys u)), nDL, fD⟩
        · exact ⟨hs₈.extBut _ _ (off7 p hp).2.2 (N₇' p hp).1, (N₇' p hp).2⟩
    · rcases List.mem_cons.mp hp with rfl | hp
      · exact ⟨gD, nDL, fD⟩
      · exact ⟨old _ _ (N p hp).1, (N p hp).2⟩
  exact codeAny_compStart_list (loop _ rfl) (wpAny_pyIter_listiter (l := ax) (i := 0) ⟨_, gI, rfl, rfl⟩ (loop _ rfl))
end
end Mine
end

section
open PySem PySem.W PyProof.Rows PySem.Calls PySem.Spec
set_option Elab.async false
set_option maxRecDepth 100000
namespace Mine
open LCg
section
variable {prog : Program} {w : World} {A : Around} {s : Shared} {h₀ : Heap} {L : Addr} {m : Str → Option Value} {env : Env}
theorem restK_by {c elt : PySem.Expr} {a b : Str} {scope : Scope} {cl : List (Str × Addr)} {S : List (Addr × Obj) → Prop} {Fin : List Value → List (Addr × Obj) → Prop} {xs : List ((Tok → Value) × Value)} (R : Nat → List Value → List (Addr × Obj) → Prop)
    (step : ∀ i p ys news (t : Tok) I oI C oC D m₂ h tk (E' : Value → Shared → Prop), xs[i]? = some p → R i ys news → NsObj oC m₂ → m₂ a = some (p.1 t) → m₂ b = some p.2 → Fr h₀ L h m → News h₀ L h ((I, oI) :: (C, oC) :: (D, lst ys) :: news) → Off3 I C D news → ((@Ne Nat I C) ∧ (@Ne Nat I D) ∧ (@Ne Nat C D)) →
      wpAny (model prog w) A (isTrue c (compEnvC scope cl C env) (eval c (compEnvC scope cl C env))) (fun okb s₃ => if okb = true then
        wpAny (model prog w) A (eval elt (compEnvC scope cl C env)) (CompEnd h₀ L m { s with heap := h, toks := tk } I oI C oC D (lst ys) S (fun y news' => R (i + 1) (ys ++ [y]) news')) E' s₃
        else CompEnd h₀ L m { s with heap := h, toks := tk } I oI C oC D (lst ys) S (fun _ news' => R (i + 1) ys news') .none s₃) E' { s with heap := h, toks := tk })
    (fin : ∀ ys news, R xs.length ys news → Fin ys news) : ∀ (r : List ((Tok → Value) × Value)) (i : Nat) ys news, xs.drop i = r → i ≤ xs.length → R i ys news → KctRest prog w A h₀ L m env c elt a b scope cl s S Fin r ys news
  | [], i, ys, news, hd, hi, hR => by
    have : i = xs.length := by
      have := congrArg List.length hd
      rw [List.length_drop, List.length_nil] at this
      omega
    exact KctRest.nil (fin ys news (this ▸ hR))
  | p :: r, i, ys, news, hd, hi, hR => by
    have hp : xs[i]? = some p := by
      have := congrArg (fun l => l[0]?) hd
      simpa using this
    have hi' : i < xs.length := (List.getElem?_eq_some_iff.mp hp).1
    have hr : xs.drop (i + 1) = r := by
      have := congrArg List.tail hd
      simpa using this
    refine KctRest.cons fun t I oI C oC D m₂ h tk E' hC ha hb F N off ne => ?_
    refine wpAny_mono (step i p ys news t I oI C oC D m₂ h tk E' hp hR hC ha hb F N off ne) (fun okb s₃ hk => ?_) fun _ _ e => e
    cases okb with
    | true =>
      simp only [if_true] at hk ⊢
      exact wpAny_mono hk (fun y s₂ hy => CompEnd_mono hy fun y n hn => restK_by R step fin r (i + 1) _ n hr hi' hn) fun _ _ e => e
    | false =>
      simp only [Bool.false_eq_true, if_false] at hk ⊢
      exact CompEnd_mono hk fun y n hn => restK_by R step fin r (i + 1) _ n hr hi' hn
end
end Mine
end

section
open PySem PySem.W PyProof.Rows PySem.Calls PySem.Spec
set_option Elab.async false
set_option maxRecDepth 100000
namespace Mine
/-- pairs of texts as tuples that a ledger bears -/
inductive PairIn (news : List (Addr × Obj)) : List Value → SS → Prop
  | nil : PairIn news [] []
  | cons {a : Addr} {x y : Str} {t u : Tok} {n : Nat} {vs : List Value} {l : SS} :
    (a, ({ cls := .type "tuple", data := .seq #[.str x t, .str y u] n } : Obj)) ∈ news → PairIn news vs l → PairIn news (.ref a :: vs) ((x, y) :: l)
theorem PairIn.sub {news news' : List (Addr × Obj)} {vs : List Value} {l : SS} (h : PairIn news vs l) (hs : ∀ p ∈ news, p ∈ news') : PairIn news' vs l := by
  induction h with
  | nil => exact .nil
  | cons hm _ ih => exact .cons (hs _ hm) ih
theorem PairIn.snoc {news : List (Addr × Obj)} {vs : List Value} {l : SS} (h : PairIn news vs l) {a : Addr} {x y : Str} {t u : Tok} {n : Nat} (hm : (a, ({ cls := .type "tuple", data := .seq #[.str x t, .str y u] n } : Obj)) ∈ news) : PairIn news (vs ++ [.ref a]) (l ++ [(x, y)]) := by
  induction h with
  | nil => exact .cons hm .nil
  | cons hm' _ ih => exact .cons hm' ih
theorem PairIn.length {news : List (Addr × Obj)} {vs : List Value} {l : SS} (h : PairIn news vs l) : vs.length = l.length := by
  induction h with
  | nil => rfl
  | cons _ _ ih => simp [ih]
def rowsL (W : SS) : SS := (W.filter fun p => decide (p.1.length ≠ 0)).map fun p => (p.2, p.1)
def leftP (tx : SS) (roots : Str) : SS := (orderW (rowsL (rounds tx roots 6).1)).map fun r => ((valS (rounds tx roots 6).2 r.2).getD Str.empty, (valS tx r.2).getD Str.empty)
theorem rowsL_take {W : SS} {i : Nat} {p : Str × Str} (h : W[i]? = some p) : rowsL (W.take (i + 1)) = if p.1.length ≠ 0 then rowsL (W.take i) ++ [(p.2, p.1)] else rowsL (W.take i) := by
  unfold rowsL
  rw [List.take_add_one, h, List.filter_append, List.map_append]
  by_cases e : p.1.length ≠ 0
  · rw [if_pos e]; simp [e]
  · rw [if_neg e]; simp at e; simp [e]
theorem order_mem {l : SS} (hlo : 2 ≤ l.length → ∀ i ∈ (runT (ltAt l) (kas_sort l.length)).toList, i < l.length) : ∀ r ∈ orderW l, r ∈ l := by
  intro r hr
  unfold orderW at hr
  split at hr
  · exact hr
  · obtain ⟨i, hi, rfl⟩ := List.mem_map.mp hr
    have := hlo (by omega) i hi
    simp [List.getD, this]
theorem TripIn.at {news : List (Addr × Obj)} {vs : List Value} {l : SS} (h : TripIn news vs l) {i : Nat} {v : Value} (hv : vs[i]? = some v) : ∃ a x y t u w n, v = .ref a ∧ l[i]? = some (x, y) ∧ (a, tripO x y t u w n) ∈ news := by
  induction h generalizing i with
  | nil => simp at hv
  | @cons a x y t u w n vs l hm _ ih =>
    cases i with
    | zero =>
      simp only [List.getElem?_cons_zero, Option.some.injEq] at hv
      exact ⟨a, x, y, t, u, w, n, hv.symm, rfl, hm⟩
    | succ i => simp only [List.getElem?_cons_succ] at hv ⊢; exact ih hv
theorem strsRow {kvs : List (Str × Value)} {l : SS} (h : StrsD kvs l) : ∀ {i : Nat} {q : Str × Value}, kvs[i]? = some q → ∃ x t, q.2 = .str x t ∧ l[i]? = some (q.1, x) := by
  induction h with
  | nil => intro i q e; simp at e
  | @cons k x t kvs l _ ih =>
    intro i q e
    cases i with
    | zero =>
      simp only [List.getElem?_cons_zero, Option.some.injEq] at e
      subst e
      exact ⟨x, t, rfl, rfl⟩
    | succ i => simp only [List.getElem?_cons_succ] at e ⊢; exact ih e
end Mine
end

section
open PySem PySem.W PyProof.Rows PySem.Calls PySem.Spec
set_option Elab.async false
set_option maxRecDepth 100000
namespace Mine
/-- a builtin's name, in the environment of a block -/
theorem nameB_any {M : Model} {A : Around} {E : Value → Shared → Prop} {s : Shared} {K : Frag} {h₀ : Heap} {L : Addr} {m mg mb : Str → Option Value} {env : Env} {p : Program} {loose : List Str}
    {x : Str} {pos : Pos} {v : Value} {Q : Value → Shared → Prop} (F : Fr h₀ L s.heap m) (X : K.In h₀) (T : TopRead p loose mg mb h₀) (e : nsIn K mainGlobals x = some none) (hv : bootBuiltins x = some v) (hn : x ≠ "__name__") (h : Q v s)
    (hg : env.globals = mainGlobals) (hb : env.builtins = builtinsNs) (hk : env.scope.kind = .function) (hx : env.kindOf x = some .globalImplicit) (hd : (x == ("__debug__" : Str)) = false) :
    wpAny M A (eval (.Name x pos) env) Q E s :=
  Calls.Name_function_global hk hx (Calls.loadGlobal_builtin (env := env) (by rw [hg]; exact T.g.keeps F.keep) (mg_none_of X T.g e) (by rw [hb]; exact T.b.keeps F.keep) ((T.builtins x hn).trans hv) h) hd
/-- a turn of a comprehension that has made one object -/
theorem comp_push {h₀ h' : Heap} {L I C D T : Addr} {m : Str → Option Value} {s₁ : Shared} {oI oC oD o : Obj} {S : List (Addr × Obj) → Prop} {rest : Value → List (Addr × Obj) → Prop} {y : Value} {tk : Nat} {nw : List (Addr × Obj)} (F : Fr h₀ L h' m)
    (N : News h₀ L h' ((T, o) :: (I, oI) :: (C, oC) :: (D, oD) :: nw)) (l : I < T ∧ C < T ∧ D < T) (off : LCg.Off3 I C D nw) (hS : S ((T, o) :: nw)) (r : rest y ((T, o) :: nw)) :
    LCg.CompEnd h₀ L m s₁ I oI C oC D oD S rest y { s₁ with heap := h', toks := tk } := by
  refine LCg.CompEnd.intro F N ((T, o) :: nw) ?_ ⟨⟨Nat.ne_of_gt l.1, Nat.ne_of_gt l.2.1, Nat.ne_of_gt l.2.2⟩, off⟩ hS r
  intro p hp
  simp only [List.mem_cons] at hp ⊢
  rcases hp with h | h | h | h | h <;> simp [h]
end Mine
end

section
open PySem PySem.W PyProof.Rows PySem.Calls PySem.Spec
set_option Elab.async false
set_option maxRecDepth 100000
namespace Mine

-- behind «refine' Pure.use C ..»: the premises
local macro_rules | `(tactic| walk_at "exec For") => `(tactic| (k_here; (with_reducible rename Fr _ _ _ _ => kF); k_dflt (refine for_turnsF kF ?_)))
local macro_rules | `(tactic| walk_at "exec For Name Call cons nil") => `(tactic| (k_here; (with_reducible rename Fr _ _ _ _ => kF); k_dflt (refine for_turnsF kF ?_)))
local macro_rules | `(tactic| walk_at "exec For Name Name cons nil") => `(tactic| (k_here; (with_reducible rename Fr _ _ _ _ => kF); k_dflt (refine for_turnsF kF ?_)))
local macro_rules | `(tactic| walk_at "exec For Tuple Call cons nil") => `(tactic| (k_here; (with_reducible rename Fr _ _ _ _ => kF); k_dflt (refine for_turnsF kF ?_)))

def MkT (d : Nat) (f : Addr) (vs : List Value) (kw : List (Str × Value)) (pre : World → List (Addr × Obj) → Prop) (Out : List Value → List (Addr × Obj) → Prop) : Prop :=
  ∀ (w : World) (mean : ExcName → Option Value) (mg mb : Str → Option Value) (dp un : Nat) (gd : Option (List Code)) (cn : Str) (cs : Scope) (a : Addr) (ccd : Value) (cl : List (Str × Addr)) (outer : List Env) (A₀ : Around) (base h₀ : Heap) (L : Addr) (m : Str → Option Value) (news : List (Addr × Obj)) (s : Shared)
    (Q E : Value → Shared → Prop),
    Below A₀ base outer h₀ → Fr h₀ L s.heap m → (hd.heap_39 w.params).In h₀ → News h₀ L s.heap news → Top hd.view_39 (looseW hd.view_39 [Str.ofString "_name_disallowed_re", Str.ofString "_value_disallowed_re"]) mean mg mb h₀ → cs.kind = .function → pre w news → dp + d < recursionLimit → un + 8 * d < cLine →
    (∀ R its k ext h' tk', Out its ext → Fr h₀ L h' m → News h₀ L h' ((R, listOf its.toArray k) :: (ext ++ news)) → Q (.ref R) { s with heap := h', toks := tk' }) →
    wpAny (model PySem.Challenge.rw_il0203_01.row.prog w) (ktrTop dp un gd cn cs L a ccd cl outer) (call (.ref f) vs kw) Q E s
abbrev strK (w : World) := PySem.strKind PySem.Challenge.rw_il0203_01.row.prog w

local macro_rules | `(tactic| walk_at "exec For Name List cons nil") => `(tactic| (k_here; (with_reducible rename Fr _ _ _ _ => kF); k_dflt (refine for_turnsF kF ?_)))
local macro_rules | `(tactic| walk_at "exec For Tuple Call cons nil") => `(tactic| (k_here; (with_reducible rename Fr _ _ _ _ => F'); (with_reducible apply For_pair3F); (case _F => with_unfolding_all exact F'); (case hh => with_unfolding_all rfl); (case hxi => with_unfolding_all rfl); (case hxc => with_unfolding_all rfl); (case hp => with_unfolding_all rfl); (case hs => (intro _; with_unfolding_all rfl))))
local macro_rules | `(tactic| walk_at "compareOp In str ref") => `(tactic| (k_here; k_dflt (refine in_S (by k_asm) (by k_mem) (by k_asm) (by k_asm) (by k_asm) ?_)))
local macro_rules | `(tactic| walk_at "compareOp NotIn str ref") => `(tactic| (k_here; k_dflt (refine notin_S (by k_asm) (by k_mem) (by k_asm) (by k_asm) (by k_asm) ?_)))
set_option hygiene false in
local macro_rules | `(tactic| walk_at "subscriptTail") => `(tactic| (k_here; k_dflt (refine item_S (by k_asm) (by k_mem) (by k_asm) (by k_asm) (by first | assumption | exact hTl (by omega) | exact valS_of (by assumption)) ?_; intro u9)))
set_option hygiene false in
local macro_rules | `(tactic| walk_at "eval IfExp") => `(tactic| (k_here; k_dflt (refine' to_text (X := textOf tx roots letter) ?a7 ?b7; (case' b7 => intro t7 k7))))


local macro_rules | `(tactic| walk_at "eval Name") => `(tactic| (k_here; (with_reducible show wpAny _ _ (eval (Expr.Name (Str.ofString "len") _) (compEnvC _ _ _ _)) _ _ _); (with_reducible rename Fr _ _ _ _ => kF); k_dflt (refine' nameB_any kF ?k1 ?k2 ?k3 ?k4 ?k5 ?_ ?k6 ?k7 ?k8 ?k9 ?ka; (case k1 => k_asm); (case k2 => k_asm); (case k3 => k_is); (case k4 => boot_by_name); (case k5 => decide); (case k6 => rfl); (case k7 => rfl); (case k8 => rfl); (case k9 => rfl); (case ka => decide); k_whole)))
local macro_rules | `(tactic| walk_at "eval ListComp") => `(tactic| (k_here; (with_reducible show wpAny _ _ (eval (Expr.ListComp _ [⟨Expr.Tuple [_, _] _ _, _, _, _⟩] _ _) _) _ _ _); k_dflt (refine kct_ListComp (PySem.strKind _ _) (by k_asm) (by rfl) (by decide) (by rfl) (by decide) (by rfl) (by rfl) (by decide) ?_)))
local macro_rules | `(tactic| walk_at "eval ListComp") => `(tactic| (k_here; (with_reducible show wpAny _ _ (eval (Expr.ListComp _ [⟨Expr.Tuple [_, _, _] _ _, _, _, _⟩] _ _) _) _ _ _); k_dflt (refine ListComp_3 (F₀ := by k_asm) (by rfl) (by decide) (by rfl) (by decide) (by rfl) (by rfl) (by rfl) (by decide) (by decide) (by decide) ?_)))
set_option hygiene false in
local macro_rules | `(tactic| walk_at "call builtin:sorted") => `(tactic| (k_here; k_dflt (refine sorted_trips (by k_asm) (by k_asm) List.mem_cons_self (hTr.sub (fun p hp => List.mem_cons_of_mem _ (List.mem_append_left _ hp))) hr6 hok ?_); intro D8 c8 h8 its8 F8 N8 hD8 hT8))
set_option hygiene false in
local macro_rules | `(tactic| walk_at "setItem ref str") => `(tactic| (k_here; k_dflt (refine' set_S ?F ?N ?U ?d ?e ?z ?_; (case F => k_asm); (case N => k_asm); (case U => k_updF); (case d => k_asm); (case e => k_asm); (case z => first | exact hz1 | exact hz2); intro h6 o6 kv6 F6' N6' hd6 hS6; (try dsimp only at N6'))))
set_option hygiene false in
local macro_rules | `(tactic| walk_at "call type:str") => `(tactic| (k_here; k_dflt (refine str_dig hk3 ?_; intro t6 k6)))
set_option hygiene false in
local macro_rules | `(tactic| walk_at "binaryOp Add str str") => `(tactic| (k_here; k_dflt (refine add_S hlen ?_; intro t6 k6)))
set_option hygiene false in
local macro_rules | `(tactic| walk_at "call builtin:str.lower") => `(tactic| (k_here; k_dflt (refine lower1 hc7 ?_)))
set_option hygiene false in
local macro_rules | `(tactic| walk_at "compareOp Lt ref ref") => `(tactic| (k_here; k_dflt (refine' lt_pairs ?ha ?hb ?ca ?cb ?da ?db ?hu ?_; (case ha => exact News.get (by k_asm) (by k_mem)); (case hb => exact News.get (by k_asm) (by k_mem)); (case ca => exact rfl); (case cb => exact rfl); (case da => exact rfl); (case db => exact rfl); (case hu => first | ktr_units | k_units | ke_room))))
set_option maxHeartbeats 4000000 in
theorem left_ok (TX : Addr) (oT : Obj) (kvT : List (Str × Value)) (tx : SS) (roots : Str) (tr : Tok) :
    MkT 4 241 [.ref TX, .str roots tr] [] (fun w news => (TX, oT) ∈ news ∧ oT.IsDictOf (strK w) kvT ∧ StrsD kvT tx ∧ (TX == sysModules) = false ∧ (∀ x ∈ letters, x.length ≠ 0 → (valS tx x).isSome = true) ∧ (∀ x ∈ letters, (textOf tx roots x).length ≤ 3 ∧ ∀ c ∈ (textOf tx roots x).cps, c < 127) ∧ (∀ r ∈ rowsL (rounds tx roots 6).1, (valS tx r.2).isSome = true ∧ (valS (rounds tx roots 6).2 r.2).isSome = true) ∧ (rowsL (rounds tx roots 6).1).length ≤ 6 ∧ (∀ p ∈ (rounds tx roots 6).1, p.1.length ≤ 1 ∧ p.2.length ≤ 1000) ∧
      (2 ≤ (rowsL (rounds tx roots 6).1).length → okT (rowsL (rounds tx roots 6).1).length (ltAt (rowsL (rounds tx roots 6).1)) (kas_sort (rowsL (rounds tx roots 6).1).length) = true ∧ ∀ i ∈ (runT (ltAt (rowsL (rounds tx roots 6).1)) (kas_sort (rowsL (rounds tx roots 6).1).length)).toList, i < (rowsL (rounds tx roots 6).1).length) ∧ (orderW (rowsL (rounds tx roots 6).1)).length ≤ 6) (fun its ext => PairIn ext its (leftP tx roots)) := by
  (( unfold MkT; k_fill; intro w mean mg mb dp un gd cn cs a ccd cl outer A₀ base h₀ L m news s Q E B F X N T hk hp hd' hu hret))
  obtain ⟨mT, dT, sT, loT, hTX, hTL, hrow, hr6, hkl, hok, ho6⟩ := hp
  refine wpAny_call ?_
  (k_dflt (first | (refine' code_def ?k1 ?k2 ?k3 ?k4 ?k5 ?kA ?kF ?kK ?k6 ?k7 ?k8 ?k9 ?kB ?_ ?c2 ?c3 ?c4 ?c5; (case kA => exact rfl); (case kF => exact rfl); (case kK => first | exact rfl | assumption); (case k1 => k_asm); (case k2 => k_asm); (case k3 => k_asm); (case k4 => k_asm); (case k5 => k_asm); (case k6 => k_is); (case k7 => k_is); (case k8 => ktr_room); (case k9 => first | exact BindsTo.of_eq rfl | exact binds_K (by k_in) rfl (by k_is) rfl rfl rfl); (case c5 => decide); (case kB => exact locs rfl); (case c2 => exact rfl); (case c3 => exact rfl); (case c4 => exact rfl); k_whole; intro g' L' h' FG' F' N' B' X' T'; (try dsimp only); (try k_lift B'); (try k_fold)) | (refine' code_defC ?k1 ?k2 ?k3 ?k4 ?k5 ?kA ?kF ?kK ?k6 ?k7 ?k8 ?k9 ?kB ?kD ?_ ?c2 ?c3 ?c4; (case kA => exact rfl); (case kF => exact rfl); (case kK => first | exact rfl | assumption); (case k1 => k_asm); (case k2 => k_asm); (case k3 => k_asm); (case k4 => k_asm); (case k5 => k_asm); (case k6 => k_is); (case k7 => k_is); (case k8 => ktr_room); (case k9 => first | exact BindsTo.of_eq rfl | exact binds_K (by k_in) rfl (by k_is) rfl rfl rfl); (case kB => exact rfl); (case kD => decide +kernel); (case c2 => exact rfl); (case c3 => exact rfl); (case c4 => exact rfl); k_whole; intro g' L' h' tk' cells' FG' F' N' Y' B' X' T' l1; (try have l0 : ∀ p ∈ rest, p.1 < L' := fun p hp => l1 p (List.mem_cons_of_mem _ hp)); (try k_lt l1); k_cells Y'; (try simp only [List.cons_append, List.nil_append] at N'); (try dsimp only); (try k_lift B'); (try k_fold))))
  k_steps
  (rename Fr _ _ _ _ => Fa); (rename News _ _ _ _ => N1); (rename IsRange _ _ _ _ _ _ _ _ => hr1)
  rename_i oc o2 d1 d2 h6 oW loW hW fW apW l2 ND h5 oN loN hN fN hi fi l1b D h4 l1c h3 h2 h1 oc' F0 N0 dc h0' tk0 t0 u0 v0 b1
  obtain ⟨mm, hmw, hmr, F1⟩ : ∃ mm : Str → Option Value, mm (Str.ofString "ways") = some (.ref h'.objs.size) ∧ mm (Str.ofString "roots") = some (.str roots tr) ∧ Fr g' L' h0' mm := ⟨_, rfl, rfl, Fa⟩
  have hmm : mm = fun z => if z = Str.ofString "ways" then some (.ref h'.objs.size) else if z = Str.ofString "roots" then some (.str roots tr) else mm z := by
    funext z
    by_cases h1 : z = Str.ofString "ways"
    · rw [if_pos h1, h1, hmw]
    · rw [if_neg h1]
      by_cases h2 : z = Str.ofString "roots"
      · rw [if_pos h2, h2, hmr]
      · rw [if_neg h2]
  have e2 : o2.data = .cell (some (.ref TX)) := d2
  have sW : ∃ kvW, oW.IsDictOf (strK w) kvW ∧ StrsD kvW [(Str.ofString "", Str.ofString "")] := ⟨_, hW, .cons .nil⟩
  have sN : ∃ kvN, oN.IsDictOf (strK w) kvN ∧ StrsD kvN [] := ⟨_, hN, .nil⟩
  obtain ⟨R0, N2, mc, mt, mT2, hRN, hnR⟩ : ∃ R0, News g' L' h0' ((ND, oN) :: (h'.objs.size, oW) :: R0) ∧ (L' + 1 + 1, oc') ∈ R0 ∧ (L' + 1, o2) ∈ R0 ∧ (TX, oT) ∈ R0 ∧ (∀ p ∈ R0, p.1 ≠ ND ∧ p.1 ≠ h'.objs.size) ∧ ∀ p ∈ news, p ∈ R0 := by
    refine ⟨(L' + 1 + 1, oc') :: (L' + 1, o2) :: news, fun p hp => N1 p (List.mem_cons_of_mem _ hp), .head _, .tail _ (.head _), .tail _ (.tail _ mT), ?_, fun p hp => .tail _ (.tail _ hp)⟩
    intro p hp
    rcases List.mem_cons.mp hp with rfl | hp
    · exact ⟨Nat.ne_of_lt l1b.2.1, Nat.ne_of_lt l2.1⟩
    · rcases List.mem_cons.mp hp with rfl | hp
      · exact ⟨Nat.ne_of_lt l1b.2.2.1, Nat.ne_of_lt l2.2.1⟩
      · exact ⟨allLt_ne l1b.2.2.2 (Nat.le_refl _) p hp, allLt_ne l2.2.2 (Nat.le_refl _) p hp⟩
  have nNW : h'.objs.size ≠ ND := Nat.ne_of_lt l1b.1
  clear N1 N0 F0 Fa hi fi hN fN hW fW d1 d2 b1 apW l1c
  obtain ⟨kvW, hW, sW⟩ := sW
  obtain ⟨kvN, hN, sN⟩ := sN
  generalize hWD : h'.objs.size = WD at *
  refine turns_rangeN (n := 6) [Str.ofString "turn", Str.ofString "letter", Str.ofString "place", Str.ofString "sign", Str.ofString "way", Str.ofString "other"]
    (fun i u news₁ => ∃ oW kvW oN kvN, news₁ = (ND, oN) :: (WD, oW) :: R0 ∧ oW.IsDictOf (strK w) kvW ∧ StrsD kvW (rounds tx roots i).1 ∧ oN.IsDictOf (strK w) kvN ∧ StrsD kvN (rounds tx roots i).2)
    rfl hr1 (by decide) (by rfl) F1 N2 ?_ rfl rfl (by decide) ?_ ?_
  · exact ⟨oW, kvW, oN, kvN, rfl, hW, sW, hN, sN⟩
  · clear sW sN hW hN hr1 F1 N2
    rintro i u news₁ h9 tk9 tc I oI hi ⟨oW, kvW, oN, kvN, rfl, hW, sW, hN, sN⟩ hnI hnI' F3 N3
    clear hnI'
    simp only [over] at F3
    rw [hmm] at F3
    k_steps
    (rename Fr _ _ _ _ => Fs0); (rename News _ _ _ _ => Ns)
    rename_i ls hs l1s
    obtain ⟨ms, hsw, hsr, hsoff, Fs⟩ : ∃ ms : Str → Option Value, ms (Str.ofString "ways") = some (.ref WD) ∧ ms (Str.ofString "roots") = some (.str roots tr) ∧ (∀ z, z ∉ [Str.ofString "turn", Str.ofString "letter", Str.ofString "place", Str.ofString "sign", Str.ofString "way", Str.ofString "other"] → ms z = mm z) ∧ Fr g' L' hs ms := ⟨_, rfl, rfl, (by
      intro z hz
      simp only [List.mem_cons, List.not_mem_nil, or_false, not_or] at hz
      obtain ⟨z1, z2, z3, z4, z5, z6⟩ := hz
      rw [show mm z = if z = Str.ofString "ways" then some (.ref WD) else if z = Str.ofString "roots" then some (.str roots tr) else mm z from congrFun hmm z]
      (repeat first | rw [if_neg z1] | rw [if_neg z2] | rw [if_neg z3] | rw [if_neg z4] | rw [if_neg z5] | rw [if_neg z6])), Fs0⟩
    have hss : ms = fun z => if z = Str.ofString "ways" then some (.ref WD) else if z = Str.ofString "roots" then some (.str roots tr) else ms z := by
      funext z
      by_cases h1 : z = Str.ofString "ways"
      · rw [if_pos h1, h1, hsw]
      · rw [if_neg h1]
        by_cases h2 : z = Str.ofString "roots"
        · rw [if_pos h2, h2, hsr]
        · rw [if_neg h2]
    clear Fs0
    obtain ⟨its, kk, hits, Ns'⟩ : ∃ its kk, StrL its letters ∧ News g' L' hs ((ls, listOf its.toArray kk) :: (I, oI) :: (ND, oN) :: (WD, oW) :: R0) := ⟨_, _, .cons (.cons (.cons (.cons (.cons (.cons (.cons .nil)))))), Ns⟩
    clear Ns
    refine turns_listN (o := listOf its.toArray kk) (items := its) (nn := kk) [Str.ofString "letter", Str.ofString "place", Str.ofString "sign", Str.ofString "way", Str.ofString "other"]
      (fun j u news₁ => ∃ oW kvW oN kvN, news₁ = (ls, listOf its.toArray kk) :: (I, oI) :: (ND, oN) :: (WD, oW) :: R0 ∧ oW.IsDictOf (strK w) kvW ∧ StrsD kvW ((letters.take j).foldl (stepL tx roots) (rounds tx roots i)).1 ∧ oN.IsDictOf (strK w) kvN ∧ StrsD kvN ((letters.take j).foldl (stepL tx roots) (rounds tx roots i)).2)
      rfl Fs Ns' List.mem_cons_self rfl rfl ?_ ?_ ?_ ?_
    · exact ⟨oW, kvW, oN, kvN, rfl, hW, sW, hN, sN⟩
    · intro I' i' s' v' Q' hv' hI' hq
      obtain ⟨x', t', _, rfl⟩ := hits.get hv'
      exact wpAny_pure hq
    · clear sW sN hW hN
      rintro j v u2 news₂ h8 tk8 I2 oI2 hv ⟨oW, kvW, oN, kvN, rfl, hW, sW, hN, sN⟩ hnI2 hI2L F4 N4
      clear Fs Ns'
      obtain ⟨letter, tl, hl, rfl⟩ := hits.get hv
      have hbd := bd_mid (tx := tx) (fun x h => (hTL x h).1) i j hi
      generalize hst : (letters.take j).foldl (stepL tx roots) (rounds tx roots i) = st at *
      simp only [over] at F4
      rw [hss] at F4
      have hlm : letter ∈ letters := List.mem_of_getElem? hl
      have hl1 : letter.length ≤ 1 := by
        have : ∀ x ∈ letters, x.length ≤ 1 := by decide +kernel
        exact this _ hlm
      have hTl : letter.length ≠ 0 → valS tx letter = some (textOf tx roots letter) := by
        intro h
        obtain ⟨x, hx⟩ := Option.isSome_iff_exists.mp (hTX letter hlm h)
        unfold textOf
        rw [if_neg h, hx]; rfl
      k_steps
      · (rename Fr _ _ _ _ => F5a); (rename News _ _ _ _ => N5); (rename PairSrcL _ _ _ _ _ _ _ _ _ _ _ _ => hP)
        obtain ⟨m5, h5w, h5l, h5off, F5, hP⟩ : ∃ m5 : Str → Option Value, m5 (Str.ofString "ways") = some (.ref WD) ∧ m5 (Str.ofString "letter") = some (.str letter tl) ∧ (∀ z, z ∉ [Str.ofString "letter", Str.ofString "place", Str.ofString "sign", Str.ofString "way", Str.ofString "other"] → m5 z = ms z) ∧ Fr _ _ _ m5 ∧ PairSrcL _ _ _ _ _ _ _ _ _ _ m5 _ := ⟨_, rfl, rfl, (by
          intro z hz
          simp only [List.mem_cons, List.not_mem_nil, or_false, not_or] at hz
          obtain ⟨z2, z3, z4, z5, z6⟩ := hz
          rw [show ms z = if z = Str.ofString "ways" then some (.ref WD) else if z = Str.ofString "roots" then some (.str roots tr) else ms z from congrFun hss z]
          (repeat first | rw [if_neg z2] | rw [if_neg z3] | rw [if_neg z4] | rw [if_neg z5] | rw [if_neg z6])), F5a, hP⟩
        have h55 : m5 = fun z => if z = Str.ofString "ways" then some (.ref WD) else if z = Str.ofString "letter" then some (.str letter tl) else m5 z := by
          funext z
          by_cases h1 : z = Str.ofString "ways"
          · rw [if_pos h1, h1, h5w]
          · rw [if_neg h1]
            by_cases h2 : z = Str.ofString "letter"
            · rw [if_pos h2, h2, h5l]
            · rw [if_neg h2]
        clear F5a
        (rename (valS st.1 letter).isSome = true => hsome)
        refine (PairSrcL.at hP _ rfl) _ _ _ _ (fun k m₁ news₁ => (∀ z, z ∉ [Str.ofString "place", Str.ofString "sign", Str.ofString "way", Str.ofString "other"] → m₁ z = m5 z) ∧ ∃ oW kvW oN kvN, news₁ = (I2, oI2) :: (ls, listOf its.toArray kk) :: (ls, listOf its.toArray kk) :: (I, oI) :: (ND, oN) :: (WD, oW) :: R0 ∧
            oW.IsDictOf (strK w) kvW ∧ StrsD kvW (((signs (textOf tx roots letter)).zipIdx.take k).foldl (stepS tx letter) st).1 ∧ oN.IsDictOf (strK w) kvN ∧ StrsD kvN (((signs (textOf tx roots letter)).zipIdx.take k).foldl (stepS tx letter) st).2) ?_ ?_ ?_
        · exact ⟨fun _ _ => rfl, _, _, _, _, rfl, hW, sW, hN, sN⟩
        · have hpre : ∀ p ∈ [(I2, oI2), (ls, listOf its.toArray kk), (ls, listOf its.toArray kk), (I, oI)], p.1 ≠ ND ∧ p.1 ≠ WD := by
            intro p hp
            simp only [List.mem_cons, List.not_mem_nil, or_false] at hp
            rcases hp with h | h | h | h
            · rw [h]; exact ⟨Ne.symm (hnI2 _ (.tail _ (.tail _ (.head _)))), Ne.symm (hnI2 _ (.tail _ (.tail _ (.tail _ (.head _)))))⟩
            · rw [h]; exact ⟨Nat.ne_of_gt l1s.2.1, Nat.ne_of_gt l1s.2.2.1⟩
            · rw [h]; exact ⟨Nat.ne_of_gt l1s.2.1, Nat.ne_of_gt l1s.2.2.1⟩
            · rw [h]; exact ⟨Ne.symm (hnI _ (.head _)), Ne.symm (hnI _ (.tail _ (.head _)))⟩
          clear hW sW hN sN hP F5 N5
          rintro k a tp v m₁ news₁ s₁ own ⟨h7, tk7, rfl⟩ ha hK ⟨hoff, oW, kvW, oN, kvN, rfl, hW, sW, hN, sN⟩ hsub hown F6 N6
          obtain ⟨tv, rfl⟩ := ItemKind.str_is hK
          have hbd2 := bd_in (tx := tx) (letter := letter) (hTL letter hlm).1 k hbd
          have hsome2 := has_fold (tx := tx) (letter := letter) (l := (signs (textOf tx roots letter)).zipIdx.take k) hsome
          have htk := take_foldP (f := stepS tx letter) (z := st) (zip_at ha)
          generalize hst2 : ((signs (textOf tx roots letter)).zipIdx.take k).foldl (stepS tx letter) st = st2 at *
          obtain ⟨T, N7, hTN, hTW, hRT, hback⟩ := rot_in [(I2, oI2), (ls, listOf its.toArray kk), (ls, listOf its.toArray kk), (I, oI)] N6 (fun p hp => ⟨hown p hp _ (.tail _ (.tail _ (.tail _ (.tail _ (.head _))))), hown p hp _ (.tail _ (.tail _ (.tail _ (.tail _ (.tail _ (.head _))))))⟩)
            hpre hRN
          clear N6
          rw [over_of hoff] at F6
          simp only [over] at F6
          rw [h55] at F6
          have mc' := hRT _ mc
          have mt' := hRT _ mt
          have mT' := hRT _ mT2
          have hWl := valS_of hsome2
          obtain ⟨hkl, c, rfl, hcm⟩ := sign_at ha
          have hc7 := (hTL letter hlm).2 c hcm
          have hk3 : k < 3 := Nat.lt_of_lt_of_le hkl (hTL letter hlm).1
          have nNW' : ND ≠ WD := Ne.symm nNW
          have hlo := Nat.le_trans (hbd2.get ⟨#[low c]⟩) (show 150 ≤ 1000 by decide)
          have hlen : ((valS st2.1 letter).getD Str.empty).length + (digS k).length ≤ 1000 := by
            have := hbd2.get letter
            rw [digS_length]; omega
          have hz1 : st2.1.length ≤ sizeLine := by
            have := hbd2.l1
            rw [sizeLine_eq]; omega
          have hz2 : st2.2.length ≤ sizeLine := by
            have := hbd2.l2
            rw [sizeLine_eq]; omega
          k_steps
          · (rename Fr _ _ _ _ => F8); (rename News _ _ _ _ => N8)
            have e8 := htk.trans (step_yes2 hc7 (by assumption) (by assumption))
            refine LoopStep3.next (LoopStep2.intro F8 (hback _ _ _ (fun p hp => N8 p (.tail _ (.tail _ (.tail _ hp))))) rfl ⟨?_, _, _, _, _, rfl, by assumption, by rw [e8]; assumption, hd6, by rw [e8]; exact hS6⟩)
            · intro z hz
              simp only [List.mem_cons, List.not_mem_nil, or_false, not_or] at hz
              obtain ⟨z1, z2, z3, z4⟩ := hz
              (try dsimp only)
              conv => rhs; rw [congrFun h55 z]
              (repeat first | rw [if_neg z1] | rw [if_neg z2] | rw [if_neg z3] | rw [if_neg z4])
          · (rename Fr _ _ _ _ => F8); (rename News _ _ _ _ => N8)
            have e8 := htk.trans (step_no2 hc7 (by assumption) (by assumption))
            refine LoopStep3.next (LoopStep2.intro F8 (hback _ _ _ (fun p hp => N8 p (.tail _ (.tail _ (.tail _ hp))))) rfl ⟨?_, _, _, _, _, rfl, hW, by rw [e8]; exact sW, hN, by rw [e8]; exact sN⟩)
            · intro z hz
              simp only [List.mem_cons, List.not_mem_nil, or_false, not_or] at hz
              obtain ⟨z1, z2, z3, z4⟩ := hz
              (try dsimp only)
              conv => rhs; rw [congrFun h55 z]
              (repeat first | rw [if_neg z1] | rw [if_neg z2] | rw [if_neg z3] | rw [if_neg z4])
          · (rename Fr _ _ _ _ => F8); (rename News _ _ _ _ => N8)
            have e8 := htk.trans (step_yes1 hc7 (by assumption) (by assumption))
            refine LoopStep3.next (LoopStep2.intro F8 (hback _ _ _ (fun p hp => N8 p (.tail _ hp))) rfl ⟨?_, _, _, _, _, rfl, by assumption, by rw [e8]; assumption, hd6, by rw [e8]; exact hS6⟩)
            · intro z hz
              simp only [List.mem_cons, List.not_mem_nil, or_false, not_or] at hz
              obtain ⟨z1, z2, z3, z4⟩ := hz
              (try dsimp only)
              conv => rhs; rw [congrFun h55 z]
              (repeat first | rw [if_neg z1] | rw [if_neg z2] | rw [if_neg z3] | rw [if_neg z4])
          · (rename Fr _ _ _ _ => F8); (rename News _ _ _ _ => N8)
            have e8 := htk.trans (step_no1 hc7 (by assumption))
            refine LoopStep3.next (LoopStep2.intro F8 (hback _ _ _ (fun p hp => N8 p (.tail _ hp))) rfl ⟨?_, _, _, _, _, rfl, hW, by rw [e8]; exact sW, hN, by rw [e8]; exact sN⟩)
            · intro z hz
              simp only [List.mem_cons, List.not_mem_nil, or_false, not_or] at hz
              obtain ⟨z1, z2, z3, z4⟩ := hz
              (try dsimp only)
              conv => rhs; rw [congrFun h55 z]
              (repeat first | rw [if_neg z1] | rw [if_neg z2] | rw [if_neg z3] | rw [if_neg z4])
        · rintro h6 tk6 m6 news6 F6 N6 hmap ⟨hoff, oW, kvW, oN, kvN, rfl, hW, sW, hN, sN⟩
          rw [List.take_of_length_le (by rw [List.length_zipIdx]; exact Nat.le_refl _)] at sW sN
          have e8 : (letters.take (j + 1)).foldl (stepL tx roots) (rounds tx roots i) = (signs (textOf tx roots letter)).zipIdx.foldl (stepS tx letter) st := by
            rw [take_foldP hl, hst]; exact if_pos hsome
          k_steps
          refine ⟨_, _, _, (ls, listOf its.toArray kk) :: (I, oI) :: (ND, oN) :: (WD, oW) :: R0, rfl, F6, (fun p hp => N6 p (.tail _ (.tail _ hp))), (fun p hp => N6 p (by
            rcases List.mem_cons.mp hp with rfl | hp
            · exact .head _
            · rw [List.mem_singleton.mp hp]; exact .tail _ (.head _))), ?_, ?_, oW, kvW, oN, kvN, rfl, hW, by rw [e8]; exact sW, hN, by rw [e8]; exact sN⟩
          · intro p hp q
            have q' := List.mem_singleton.mp q
            rcases List.mem_cons.mp hp with h | hp
            · exact hI2L (by rw [← q', h])
            · rcases List.mem_cons.mp hp with h | hp
              · exact hnI2 (I, oI) (.tail _ (.head _)) (by rw [← q', h])
              · rcases List.mem_cons.mp hp with h | hp
                · exact hnI2 (ND, _) (.tail _ (.tail _ (.head _))) (by rw [← q', h])
                · rcases List.mem_cons.mp hp with h | hp
                  · exact hnI2 (WD, _) (.tail _ (.tail _ (.tail _ (.head _)))) (by rw [← q', h])
                  · exact hnI2 p (.tail _ (.tail _ (.tail _ (.tail _ hp)))) q'
          · intro z hz
            rw [hoff z (fun h => hz (.tail _ h)), h5off z hz]
      · rw [show textOf tx roots letter = roots from if_pos (by omega)]
      · have e8 : (letters.take (j + 1)).foldl (stepL tx roots) (rounds tx roots i) = st := by
          rw [take_foldP hl, hst]; exact if_neg (by rw [show (valS st.1 letter).isSome = false by assumption]; decide)
        (rename Fr _ _ _ _ => F6); (rename News _ _ _ _ => N6)
        refine ⟨_, _, _, (ls, listOf its.toArray kk) :: (I, oI) :: (ND, oN) :: (WD, oW) :: R0, rfl, F6, (fun p hp => N6 p (.tail _ (.tail _ hp))), (fun p hp => N6 p (by
            rcases List.mem_cons.mp hp with rfl | hp
            · exact .head _
            · rw [List.mem_singleton.mp hp]; exact .tail _ (.head _))), ?_, ?_, oW, kvW, oN, kvN, rfl, hW, by rw [e8]; exact sW, hN, by rw [e8]; exact sN⟩
        · intro p hp q
          have q' := List.mem_singleton.mp q
          rcases List.mem_cons.mp hp with h | hp
          · exact hI2L (by rw [← q', h])
          · rcases List.mem_cons.mp hp with h | hp
            · exact hnI2 (I, oI) (.tail _ (.head _)) (by rw [← q', h])
            · rcases List.mem_cons.mp hp with h | hp
              · exact hnI2 (ND, _) (.tail _ (.tail _ (.head _))) (by rw [← q', h])
              · rcases List.mem_cons.mp hp with h | hp
                · exact hnI2 (WD, _) (.tail _ (.tail _ (.tail _ (.head _)))) (by rw [← q', h])
                · exact hnI2 p (.tail _ (.tail _ (.tail _ (.tail _ hp)))) q'
        · intro z hz
          simp only [List.mem_cons, List.not_mem_nil, or_false, not_or] at hz
          obtain ⟨z2, z3, z4, z5, z6⟩ := hz
          conv => rhs; rw [congrFun hss z]
          (try dsimp only)
          (repeat first | rw [if_neg z2] | rw [if_neg z3] | rw [if_neg z4] | rw [if_neg z5] | rw [if_neg z6])
    · rintro h6 tk6 u6 news6 ⟨oW, kvW, oN, kvN, rfl, hW, sW, hN, sN⟩ F6 N6
      rw [show its.length = 7 from hits.length, show letters.take 7 = letters from rfl] at sW sN
      clear Fs Ns'
      k_steps
      refine ⟨_, _, _, (ND, oN) :: (WD, oW) :: R0, rfl, F6, (fun p hp => N6 p (.tail _ (.tail _ hp))), (fun p hp => N6 p (by rw [List.mem_singleton.mp hp]; exact .tail _ (.head _))), ?_, ?_, oW, kvW, oN, kvN, rfl, hW, sW, hN, sN⟩
      · intro p hp q
        have q' := List.mem_singleton.mp q
        rcases List.mem_cons.mp hp with h | hp
        · exact hnI (ND, _) (.head _) (by rw [← q', h])
        · rcases List.mem_cons.mp hp with h | hp
          · exact hnI (WD, _) (.tail _ (.head _)) (by rw [← q', h])
          · exact hnI p (.tail _ (.tail _ hp)) q'
      · intro z hz
        rw [over_off (fun h => hz (.tail _ h)), hsoff z hz]
  · rintro h9 tk9 u news₁ ⟨oW, kvW, oN, kvN, rfl, hW, sW, hN, sN⟩ F3 N3
    clear F1 N2 hr1
    simp only [over] at F3
    rw [hmm] at F3
    have hbd := bd_rounds (tx := tx) (fun x h => (hTL x h).1) 6
    have hlp : leftP tx roots = (orderW (rowsL (rounds tx roots 6).1)).map fun r => ((valS (rounds tx roots 6).2 r.2).getD Str.empty, (valS tx r.2).getD Str.empty) := rfl
    generalize hst : rounds tx roots 6 = st at *
    k_steps
    (rename Fr _ _ _ _ => F5); (rename News _ _ _ _ => N5)
    refine KctSrc.intro (enc := PyData.str) rfl F5 N5 ⟨_, (N5 _ List.mem_cons_self).1, rfl, rfl⟩ (by k_mem) hW ?hsz (fun _ _ h => Value.isStrOf_shape h) rfl ?_
    case hsz =>
      have := hbd.l1
      rw [sW.length, sizeLine_eq]; omega
    intro g7
    refine restK_by (fun i ys news' => ∃ tups, news' = tups ++ _ ∧ TripIn tups ys (rowsL (st.1.take i))) ?_ ?_ _ 0 [] _ rfl (Nat.zero_le _) ⟨[], rfl, .nil⟩
    · rintro i p ys news' t I8 oI8 C8 oC8 D8 m8 h8 tk8 E8 hp8 ⟨tups, rfl, hTr⟩ hC8 ha8 hb8 F8 N8 off8 ne8
      rw [List.getElem?_map, Option.map_eq_some_iff] at hp8
      obtain ⟨⟨kl, xv⟩, hq, rfl⟩ := hp8
      obtain ⟨xw, tw, hq2, hw⟩ := strsRow sW hq
      dsimp only at hq2 hw ha8 hb8
      subst hq2
      have ha9 : m8 (Str.ofString "letter") = some (.str kl t) := ha8
      clear ha8
      obtain ⟨hkl1, hkl2⟩ := hkl _ (List.mem_of_getElem? hw)
      dsimp only at hkl1 hkl2
      have hrt := rowsL_take hw
      dsimp only at hrt
      clear F5 N5
      k_steps
      · (rename Fr _ _ _ _ => F9); (rename News _ _ _ _ => N9); (rename _ ∧ _ ∧ _ ∧ AllLt _ _ => l9)
        refine comp_push F9 N9 ⟨l9.1, l9.2.1, l9.2.2.1⟩ off8 (.inr ⟨oW, .tail _ (List.mem_append_right _ (.tail _ (.tail _ (.head _)))), rfl, 0, rfl⟩) ⟨_ :: tups, rfl, ?_⟩
        rw [hrt, if_pos (by omega)]
        exact (hTr.sub fun p hp => .tail _ hp).snoc (.head _)
      · (rename Fr _ _ _ _ => F9); (rename News _ _ _ _ => N9)
        refine LCg.CompEnd.intro F9 N9 _ (fun p hp => hp) off8 (.inr ⟨oW, List.mem_append_right _ (.tail _ (.tail _ (.head _))), rfl, 0, rfl⟩) ⟨tups, rfl, ?_⟩
        rw [hrt, if_neg (by omega)]
        exact hTr
    · rintro ys news' ⟨tups, rfl, hTr⟩ D8 h8 tk8 F8 N8 off8
      rw [List.length_map, sW.length, List.take_length] at hTr
      clear F5 N5
      k_steps
      (rename Fr _ _ _ _ => F9); (rename News _ _ _ _ => N9)
      refine ⟨D8, its8, c8, _, (fun i ys news' => ∃ tups', news' = tups' ++ _ ∧ PairIn tups' ys (((orderW (rowsL st.1)).take i).map fun r => ((valS st.2 r.2).getD Str.empty, (valS tx r.2).getD Str.empty))), rfl, rfl, F9, N9, by k_mem, ?_, ⟨[], rfl, .nil⟩, ?_, ?_⟩
      · rw [hT8.length, sizeLine_eq]; omega
      · rintro g9 i v ys' news' hv ⟨tups', rfl, hPr⟩
        obtain ⟨a9, x9, y9, t9, u9, v9, n9, rfl, hi9, hm9⟩ := hT8.at hv
        have hin := order_mem (fun h => (hok h).2) _ (List.mem_of_getElem? hi9)
        have hvT := valS_of (hrow _ hin).1
        have hvN := valS_of (hrow _ hin).2
        dsimp only at hvT hvN
        refine ⟨a9, _, _, _, _, n9, rfl, List.mem_append_right _ (.tail _ hm9), rfl, rfl, ?_⟩
        intro I8 oI8 C8 oC8 D8 m8 h8 tk8 E8 hC8 hx8 hy8 hz8 F8 N8 off8 ne8
        clear F9 N9
        k_steps
        (rename Fr _ _ _ _ => F9); (rename News _ _ _ _ => N9); (rename _ ∧ _ ∧ _ ∧ AllLt _ _ => l9)
        refine comp_push F9 N9 ⟨l9.1, l9.2.1, l9.2.2.1⟩ off8 (.tail _ (List.mem_append_right _ (by k_mem))) ⟨_ :: tups', rfl, ?_⟩
        rw [List.take_add_one, hi9, List.map_append]
        exact (hPr.sub fun p hp => .tail _ hp).snoc (.head _)
      · rintro g9 ys' news' ⟨tups', rfl, hPr⟩ D9 h9' tk9' F9' N9' off9
        clear F9 N9
        rw [hT8.length, List.take_length] at hPr
        dsimp only
        k_steps
        (rename Fr _ _ _ _ => FE); (rename News _ _ _ _ => NE)
        refine hret D9 ys' ys'.length tups' _ _ ?_ FE fun p hp => NE p ?_
        · show PairIn tups' ys' (leftP tx roots)
          rw [hlp]; exact hPr
        · rcases List.mem_cons.mp hp with rfl | hp
          · exact .head _
          · rcases List.mem_append.mp hp with hp | hp
            · exact .tail _ (List.mem_append_left _ hp)
            · exact .tail _ (List.mem_append_right _ (.tail _ (.tail _ (List.mem_append_right _ (.tail _ (.tail _ (.tail _ (hnR p hp))))))))
end Mine
end

section
open PySem PySem.W PyProof.Rows PySem.Calls PySem.Spec
set_option Elab.async false
set_option maxRecDepth 100000
namespace Mine
open LCg
section
variable {prog : Program} {w : World} {A : Around} {E : Value → Shared → Prop} {s : Shared}
theorem dict_loop {kx vx target iter : PySem.Expr} {scope : Scope} {pos : Pos} {it : Value} {D : Addr} {env : Env} {R : Result → Shared → Prop} (I : Nat → Shared → Prop)
    (turn : ∀ n s, I n s → wpAny (model prog w) A (pyNext it) (fun r s₁ => match r with
      | none => R (.ok .next) s₁
      | some v => wpAny (model prog w) A (letOwnedTupleGo target it v) (fun _ s₀ => wpAny (model prog w) A (assign target env v) (fun _ s₂ =>
          wpAny (model prog w) A (eval kx env) (fun kv s₄ => wpAny (model prog w) A (eval vx env) (fun vv s₅ =>
            wpAny (model prog w) A (dictSet D kv vv) (fun _ s₆ => ∃ m, m < n ∧ I m s₆) (notedBy (model prog w) A env fun e s' => R (.error e) s') s₅) (notedBy (model prog w) A env fun e s' => R (.error e) s') s₄) (notedBy (model prog w) A env fun e s' => R (.error e) s') s₂)
          (notedBy (model prog w) A env fun e s' => R (.error e) s') s₀) (notedBy (model prog w) A env fun e s' => R (.error e) s') s₁) (notedBy (model prog w) A env fun e s' => R (.error e) s') s)
    (n : Nat) (h : I n s) : codeAny (model prog w) A (.compLoop (.DictComp kx vx [⟨target, iter, [], 0⟩] scope pos) 0 it (.ref D) env) R s := by
  refine codeAny_loop rfl I (fun n s hI => ?_) n h
  show wpAny _ A ((compTurn (.DictComp kx vx [⟨target, iter, [], 0⟩] scope pos) 0 it (.ref D) env).onRaise (fun x => do noteFrame x env; theTreesLotGoes x)) _ _ s
  refine wpAny_noted ?_
  rw [compTurn_dict]
  refine wpAny_bind (wpAny_standAt (wpAny_bind (wpAny_mono (turn n s hI) (fun r s₁ h₁ => ?_) fun _ _ h' => h')))
  cases r with
  | none => exact wpAny_pure h₁
  | some v =>
    refine wpAny_bind (wpAny_mono h₁ (fun _ s₀ h₀' => ?_) fun _ _ h' => h')
    refine wpAny_bind (wpAny_mono h₀' (fun _ s₂ h₂ => ?_) fun _ _ h' => h')
    refine wpAny_bind (wpAny_tests_nil ?_)
    exact wpAny_bind (wpAny_bind (wpAny_mono h₂ (fun kv s₄ h₄ => wpAny_bind (wpAny_holding (wpAny_mono h₄ (fun vv s₅ h₅ => wpAny_bind (wpAny_standAt (wpAny_holding (wpAny_mono h₅ (fun _ s₆ h₆ => wpAny_pure ⟨rfl, h₆⟩) fun _ _ h' => h')))) fun _ _ h' => h'))) fun _ _ h' => h'))
end

/-- the end of a turn of a dict comprehension -/
def EndD (prog : Program) (w : World) (h₀ : Heap) (L : Addr) (m : Str → Option Value) (s₁ : Shared) (keep : List (Addr × Obj)) (kvs : List (Str × Value)) (R : List (Str × Value) → Prop) (kv vv : Value) (s₂ : Shared) : Prop :=
  ∃ h tk k, s₂ = { s₁ with heap := h, toks := tk } ∧ Fr h₀ L h m ∧ News h₀ L h keep ∧ (PySem.strKind prog w).is k kv = true ∧ R (stored kvs k vv)
theorem EndD.intro {prog : Program} {w : World} {h₀ h : Heap} {L : Addr} {m : Str → Option Value} {s₁ : Shared} {keep all : List (Addr × Obj)} {kvs : List (Str × Value)} {R : List (Str × Value) → Prop} {k : Str} {t : Tok} {vv : Value} {tk : Nat} (F : Fr h₀ L h m) (N : News h₀ L h all) (sub : ∀ p ∈ keep, p ∈ all) (r : R (stored kvs k vv)) :
    EndD prog w h₀ L m s₁ keep kvs R (.str k t) vv { s₁ with heap := h, toks := tk } := ⟨h, tk, k, rfl, F, fun p hp => N p (sub p hp), strKind_is _ _ _ _, r⟩

/-- what a dict comprehension over enumerate of a text asks -/
def SrcE (prog : Program) (w : World) (A : Around) (h₀ : Heap) (L : Addr) (m : Str → Option Value) (env : Env) (kx vx : PySem.Expr) (x y : Str) (scope : Scope) (cl : List (Str × Addr)) (Q : Value → Shared → Prop) (xv : Value) (s₁ : Shared) : Prop :=
  ∃ (e it : Addr) (X : Str) (t : Tok) (news : List (Addr × Obj)) (R : Nat → List (Str × Value) → Prop), xv = .ref e ∧ A.handled = none ∧ Fr h₀ L s₁.heap m ∧ News h₀ L s₁.heap news ∧ IsEnum s₁.heap e it 0 .none ∧ s₁.heap.IsStrIter it "str_ascii_iterator" X t 0 ∧ e ≠ it ∧ e ≠ L ∧ it ≠ L ∧ h₀.get? e = none ∧ h₀.get? it = none ∧
    (∀ p ∈ news, p.1 ≠ e ∧ p.1 ≠ it) ∧ sysModules < h₀.objs.size ∧ X.cps.size ≤ sizeLine ∧ (∀ i kvs, R i kvs → kvs.length ≤ i) ∧ R 0 [] ∧
    (∀ i c kvs, X.cps[i]? = some c → R i kvs → ∀ (t u : Tok) oe oi C oC D oD m₂ h tk (E' : Value → Shared → Prop), NsObj oC m₂ → m₂ x = some (.int (i : Int) t) → m₂ y = some (.str ⟨#[c]⟩ u) → Fr h₀ L h m → News h₀ L h ((e, oe) :: (it, oi) :: (C, oC) :: (D, oD) :: news) →
        (@Ne Nat e it ∧ @Ne Nat e C ∧ @Ne Nat e D ∧ @Ne Nat it C ∧ @Ne Nat it D ∧ @Ne Nat C D) → Off3 e C D news → Off3 it C D news →
        wpAny (model prog w) A (eval kx (compEnvC scope cl C env)) (fun kv s₃ => wpAny (model prog w) A (eval vx (compEnvC scope cl C env)) (fun vv s₄ => EndD prog w h₀ L m { s₁ with heap := h, toks := tk } ((e, oe) :: (it, oi) :: (C, oC) :: (D, oD) :: news) kvs (R (i + 1)) kv vv s₄) E' s₃) E' { s₁ with heap := h, toks := tk }) ∧
    ∀ (g : Heap) D oD kvs h tk, R X.cps.size kvs → oD.IsDictOf (PySem.strKind prog w) kvs → (D == sysModules) = false → Fr h₀ L h m → News h₀ L h ((D, oD) :: news) → (∀ p ∈ news, p.1 < D) → Q (.ref D) { s₁ with heap := h, toks := tk }

section
variable {prog : Program} {w : World} {A : Around} {E : Value → Shared → Prop} {s : Shared} {h₀ : Heap} {L : Addr} {m : Str → Option Value} {env : Env}
set_option maxHeartbeats 4000000 in
theorem DictComp_E {kx vx iter : PySem.Expr} {x y : Str} {px py tp : Pos} {kk : Nat} {scope : Scope} {cl : List (Str × Addr)} {pos : Pos} {Q : Value → Shared → Prop} (F₀ : Fr h₀ L s.heap m)
    (hclos : closureFor scope env = pure cl) (hcell : ∀ u ∈ scope.names, u.2 ≠ .cell) (hkind : scope.kind = .function)
    (hnames : ∀ u ∈ scope.names, u.2 = .local → scope.names.lookup u.1 = some .local) (hx : scope.names.lookup x = some .local) (hy : scope.names.lookup y = some .local) (hxy : x ≠ y)
    (h : wpAny (model prog w) A (eval iter env) (SrcE prog w A h₀ L m env kx vx x y scope cl Q) E s)
    (hs : ∀ x, foldedSetIterable iter env x = pure x := by intro _; rfl) :
    wpAny (model prog w) A (eval (.DictComp kx vx [⟨.Tuple [.Name x px, .Name y py] kk tp, iter, [], 0⟩] scope pos) env) Q E s := by
  rw [arm_eval_DictComp]
  refine wpAny_comprehension_free (use := none) rfl hs hclos hkind hnames (wpAny_mono h (fun xv s₁ h₁ => ?_) fun _ _ e => e)
  obtain ⟨e, it, X, t, news, R, rfl, hh, F, N, he, hit, hei, heL, hiL, he0, hi0, hni, hbig, hsz, hRl, hR0, step, fin⟩ := h₁
  refine wpAny_pyIter_enum he ?_
  have hLlt : L < s₁.heap.objs.size := F.ns.lt
  have elt' : e < s₁.heap.objs.size := Heap.lt_size he
  have ilt' : it < s₁.heap.objs.size := by obtain ⟨o, ho, _⟩ := id hit; exact Heap.lt_size ho
  have freshI : ∀ a, s₁.heap.objs.size ≤ a → h₀.get? a = none := fun a ha => Heap.get?_none_of_le (Nat.le_trans F.above (Nat.le_trans (Nat.le_of_lt hLlt) ha))
  have hmod : (s₁.heap.objs.size == sysModules) = false := F.notModules hbig
  refine wpAny_newObj_type (wpAny_newFunctionEnv hcell (by intro u hu; simp at hu) (fun h₁ hns₁ hsb₁ => ?_) hkind)
  dsimp only at hns₁ hsb₁ ⊢
  have hnew : (s₁.heap.push { cls := .type "dict", dict := none, data := .dict #[] }).DictOf (PySem.strKind prog w) s₁.heap.objs.size [] := Heap.DictOf.new s₁.heap
  have sz2 : (s₁.heap.push { cls := .type "dict", dict := none, data := .dict #[] }).objs.size = s₁.heap.objs.size + 1 := Heap.size_push ..
  rw [sz2] at hns₁ hsb₁
  rw [sz2]
  generalize hI : s₁.heap.objs.size = I at *
  have old : ∀ b o, s₁.heap.get? b = some o → h₁.get? b = some o := fun b o e => hsb₁.extBut b o (Nat.ne_of_lt (Nat.lt_succ_of_lt (hI ▸ Heap.lt_size e))) (Heap.get?_push_of_some _ (Heap.get?_push_of_some _ e))
  have hacc : h₁.DictOf (PySem.strKind prog w) I [] := hnew.at fun o e => hsb₁.extBut I o (Nat.ne_of_lt (Nat.lt_succ_self _)) (Heap.get?_push_of_some _ e)
  have nCL : I + 1 ≠ L := far1 hLlt
  have nDL : I ≠ L := Nat.ne_of_gt hLlt
  have fD := freshI I (Nat.le_refl _)
  have fC := freshI (I + 1) (Nat.le_succ _)
  have neI : e ≠ I := Nat.ne_of_lt elt'
  have neC : e ≠ I + 1 := far1' elt'
  have niI : it ≠ I := Nat.ne_of_lt ilt'
  have niC : it ≠ I + 1 := far1' ilt'
  have nDC : I ≠ I + 1 := nxt1 I
  have ltN : ∀ p ∈ news, p.1 < I := fun p hp => hI ▸ Heap.lt_size (N p hp).1
  have offE : Off3 e (I + 1) I news := Off3.of fun p hp => ⟨(hni p hp).1, far1' (ltN p hp), Nat.ne_of_lt (ltN p hp)⟩
  have offI : Off3 it (I + 1) I news := Off3.of fun p hp => ⟨(hni p hp).2, far1' (ltN p hp), Nat.ne_of_lt (ltN p hp)⟩
  have W := WalksT.enumerateD (prog := prog) (w := w) (Draws.strAscii (A := A.in1) hh it X t) e hei (fun q => hei (List.mem_singleton.mp q)) (List.mem_singleton.mpr rfl)
  have loop : ∀ s₃ : Shared, s₃ = { s₁ with heap := h₁, toks := s₁.toks + ([] : List (Str × Value)).length } →
      codeAny (model prog w) A (.compLoop (.DictComp kx vx [⟨.Tuple [.Name x px, .Name y py] kk tp, iter, [], 0⟩] scope pos) 0 (.ref e) (.ref I) (compEnvC scope cl (I + 1) env))
        (compPost (model prog w) A E none Q (.ref I) (I + 1)) s₃ := by
    rintro s₃ rfl
    refine dict_loop
      (fun n s' => ∃ h' tk i kvs m', s' = { s₁ with heap := h', toks := tk } ∧ i ≤ X.cps.size ∧ n = X.cps.size + 1 - i ∧ ((∃ old, IsEnum h' e it i old) ∧ h'.IsStrIter it "str_ascii_iterator" X t i) ∧ Fr h₀ L h' m ∧ h'.Ns (I + 1) m' ∧ News h₀ L h' news ∧
        h'.DictOf (PySem.strKind prog w) I kvs ∧ R i kvs) ?_ (X.cps.size + 1)
      ⟨h₁, _, 0, [], _, rfl, Nat.zero_le _, rfl, ⟨⟨_, old _ _ he⟩, (let ⟨o, ho, r⟩ := hit; ⟨o, old _ _ ho, r⟩)⟩, F.keeps old, hns₁, fun p hp => ⟨old _ _ (N p hp).1, (N p hp).2⟩, hacc, hR0⟩
    rintro n s' ⟨h', tk, i, kvs, m', rfl, hi, rfl, hst, F', hn', N', hacc', hR'⟩
    by_cases hlt : i < X.cps.size
    · refine W.item i _ _ _ hlt hst fun T vals h₂ tk₂ hP hTge hT hm hk₂ => ?_
      obtain ⟨t', x', ⟨c, u, hc, rfl⟩, rfl⟩ := hP
      refine W.go _ _ _ i T _ _ _ hm fun h₃ hst₃ hk₃ => ?_
      have hT₃ : h₃.IsTuple T #[.int i t', .str ⟨#[c]⟩ u] := hT.at fun o e => hk₃ T o (W.apart i T _ hm) e
      have up₃ : ∀ b o, b ≠ e → b ≠ it → h'.get? b = some o → h₃.get? b = some o := fun b o h1 h2 e => hk₃ b o (by simp [h1, h2]) (hk₂ b o (by simp [h1, h2]) e)
      refine kcp_assign (env := compEnvC scope cl (I + 1) env) hh hT₃ (lookup_relabel_local hx) (lookup_relabel_local hy) (by simp [compEnvC, relabel, hkind]) (hn'.at' fun o e => up₃ _ o (Ne.symm neC) (Ne.symm niC) e) fun h₄ tk₄ hn₄ hs₄ => ?_
      have up : ∀ b o, b ≠ e → b ≠ it → b ≠ I + 1 → h'.get? b = some o → h₄.get? b = some o := fun b o h1 h2 h3 e => hs₄ b o h3 (up₃ b o h1 h2 e)
      have hst₄ : (∃ old, IsEnum h₄ e it (i + 1 : Nat) old) ∧ h₄.IsStrIter it "str_ascii_iterator" X t (i + 1) := W.frame _ _ _ hst₃ fun b hb o q => hs₄ b o (by
        simp only [List.mem_cons, List.not_mem_nil, or_false] at hb
        rcases hb with rfl | rfl
        · exact neC
        · exact niC) q
      obtain ⟨oe, heE⟩ : ∃ oe : Obj, h₄.get? e = some oe := by obtain ⟨⟨_, q⟩, _⟩ := hst₄; exact ⟨_, q⟩
      obtain ⟨oi, heI⟩ : ∃ oi : Obj, h₄.get? it = some oi := by obtain ⟨_, ⟨oi, q, _⟩⟩ := hst₄; exact ⟨oi, q⟩
      obtain ⟨oC, heC, hoC⟩ := ns_obj hn₄
      obtain ⟨oD, heD, hoD⟩ := Heap.dictOf_iff.mp (hacc'.at (h' := h₄) fun o q => up I o (Ne.symm neI) (Ne.symm niI) nDC q)
      have F₄ : Fr h₀ L h₄ m := ⟨F'.ns.at' fun o q => up _ o (Ne.symm heL) (Ne.symm hiL) (Ne.symm nCL) q, fun b o q => up b o (fun r => by rw [r, he0] at q; cases q) (fun r => by rw [r, hi0] at q; cases q) (fun r => by rw [r, fC] at q; cases q) (F'.keep b o q), F'.above⟩
      have N₄' : News h₀ L h₄ news := fun p hp => ⟨up _ _ (hni p hp).1 (hni p hp).2 (far1' (ltN p hp)) (N' p hp).1, (N' p hp).2⟩
      have N₄ : News h₀ L h₄ ((e, oe) :: (it, oi) :: (I + 1, oC) :: (I, oD) :: news) := fun p hp => by
        simp only [List.mem_cons] at hp
        rcases hp with rfl | rfl | rfl | rfl | hp
        · exact ⟨heE, heL, he0⟩
        · exact ⟨heI, hiL, hi0⟩
        · exact ⟨heC, nCL, fC⟩
        · exact ⟨heD, nDL, fD⟩
        · exact N₄' p hp
      refine wpAny_mono (step i c kvs hc hR' t' u oe oi (I + 1) oC I oD _ h₄ _ _ hoC (by simp [hxy]) (by simp) F₄ N₄ ⟨hei, neC, neI, niC, niI, Ne.symm nDC⟩ offE offI) (fun kv s₅ h₅ => wpAny_mono h₅ (fun vv s₆ h₆ => ?_) fun _ _ e => e) fun _ _ e => e
      obtain ⟨h₆, tk₆, k, rfl, F₆, N₆, hk, hR₆⟩ := h₆
      have zE := (N₆ (e, oe) (.head _)).1
      have zI := (N₆ (it, oi) (.tail _ (.head _))).1
      have zC := (N₆ (I + 1, oC) (.tail _ (.tail _ (.head _)))).1
      have zD := (N₆ (I, oD) (.tail _ (.tail _ (.tail _ (.head _))))).1
      have N₆' : News h₀ L h₆ news := fun p hp => N₆ p (.tail _ (.tail _ (.tail _ (.tail _ hp))))
      refine wpAny_dictSet_pairs (hsz := Nat.le_trans (hRl _ _ hR') (Nat.le_trans hi hsz)) hk (Heap.dictOf_iff.mpr ⟨oD, zD, hoD⟩) fun h₇ hl₇ hs₇ => ?_
      refine ⟨X.cps.size + 1 - (i + 1), by omega, h₇, _, i + 1, _, _, rfl, hlt, rfl, W.frame _ _ _ hst₄ (fun b hb o q => ?_), F₆.change hs₇ nDL fD, (hoC.ns zC).sameBut hs₇ (Ne.symm nDC), fun p hp => ⟨hs₇.extBut _ _ (Nat.ne_of_lt (ltN p hp)) (N₆' p hp).1, (N₆' p hp).2⟩, hl₇, hR₆⟩
      simp only [List.mem_cons, List.not_mem_nil, or_false] at hb
      rcases hb with rfl | rfl
      · rw [heE] at q; cases q
        exact hs₇.extBut _ _ neI zE
      · rw [heI] at q; cases q
        exact hs₇.extBut _ _ niI zI
    · obtain rfl : i = X.cps.size := Nat.le_antisymm hi (Nat.not_lt.mp hlt)
      refine W.done _ _ _ hst fun h₂ tk₂ hk₂ => ?_
      have up : ∀ b o, b ≠ e → b ≠ it → h'.get? b = some o → h₂.get? b = some o := fun b o h1 h2 q => hk₂ b o (by simp [h1, h2]) q
      obtain ⟨oD, heD, hoD⟩ := Heap.dictOf_iff.mp (hacc'.at (h' := h₂) fun o q => up I o (Ne.symm neI) (Ne.symm niI) q)
      have F₂ : Fr h₀ L h₂ m := ⟨F'.ns.at' fun o q => up _ o (Ne.symm heL) (Ne.symm hiL) q, fun b o q => up b o (fun r => by rw [r, he0] at q; cases q) (fun r => by rw [r, hi0] at q; cases q) (F'.keep b o q), F'.above⟩
      refine ⟨m', hn'.at' fun o q => up _ o (Ne.symm neC) (Ne.symm niC) q, fun h'' hs'' => fin h'' I oD kvs h'' tk₂ hR' hoD hmod (F₂.change hs'' nCL fC) (fun p hp => ?_) ltN⟩
      rcases List.mem_cons.mp hp with rfl | hp
      · exact ⟨hs''.extBut _ _ nDC heD, nDL, fD⟩
      · exact ⟨hs''.extBut _ _ (far1' (ltN p hp)) (up _ _ (hni p hp).1 (hni p hp).2 (N' p hp).1), (N' p hp).2⟩
  exact codeAny_compStart_dict (loop _ rfl) (wpAny_pyIter_enum (old _ _ he) (loop _ rfl))
end
end Mine
end

section
open PySem PySem.W PyProof.Rows PySem.Calls PySem.Spec
set_option Elab.async false
set_option maxRecDepth 100000
namespace Mine
open LCg
section
variable {prog : Program} {w : World} {A : Around} {s : Shared} {h₀ : Heap} {L : Addr} {m : Str → Option Value} {env : Env}
theorem SrcE.enum {kx vx : PySem.Expr} {x y : Str} {scope : Scope} {cl : List (Str × Addr)} {Q : Value → Shared → Prop} {X : Str} {t : Tok} {h' : Heap} {news : List (Addr × Obj)} (R : Nat → List (Str × Value) → Prop)
    (hh : A.handled = none) (F : Fr h₀ L s.heap m) (N : News h₀ L s.heap news) (hbig : h₀.NoLimit) (hX : strIterType X = "str_ascii_iterator") (hsz : X.cps.size ≤ sizeLine)
    (he : IsEnum h' (s.heap.objs.size + 1) s.heap.objs.size 0 .none) (hit : h'.IsStrIter s.heap.objs.size (strIterType X) X t 0) (hk : ∀ b o, s.heap.get? b = some o → h'.get? b = some o)
    (hRl : ∀ i kvs, R i kvs → kvs.length ≤ i) (hR0 : R 0 [])
    (step : ∀ (e it : Addr) i c kvs, X.cps[i]? = some c → R i kvs → ∀ (t u : Tok) oe oi C oC D oD m₂ h tk (E' : Value → Shared → Prop), NsObj oC m₂ → m₂ x = some (.int (i : Int) t) → m₂ y = some (.str ⟨#[c]⟩ u) → Fr h₀ L h m → News h₀ L h ((e, oe) :: (it, oi) :: (C, oC) :: (D, oD) :: news) →
        (@Ne Nat e it ∧ @Ne Nat e C ∧ @Ne Nat e D ∧ @Ne Nat it C ∧ @Ne Nat it D ∧ @Ne Nat C D) → Off3 e C D news → Off3 it C D news →
        wpAny (model prog w) A (eval kx (compEnvC scope cl C env)) (fun kv s₃ => wpAny (model prog w) A (eval vx (compEnvC scope cl C env)) (fun vv s₄ => EndD prog w h₀ L m { s with heap := h, toks := tk } ((e, oe) :: (it, oi) :: (C, oC) :: (D, oD) :: news) kvs (R (i + 1)) kv vv s₄) E' s₃) E' { s with heap := h, toks := tk })
    (fin : ∀ D oD kvs h tk, R X.cps.size kvs → oD.IsDictOf (PySem.strKind prog w) kvs → (D == sysModules) = false → Fr h₀ L h m → News h₀ L h ((D, oD) :: news) → (∀ p ∈ news, p.1 < D) → Q (.ref D) { s with heap := h, toks := tk }) :
    SrcE prog w A h₀ L m env kx vx x y scope cl Q (.ref (s.heap.objs.size + 1)) { s with heap := h' } := by
  have hLlt : L < s.heap.objs.size := F.ns.lt
  have freshI : ∀ a, s.heap.objs.size ≤ a → h₀.get? a = none := fun a ha => Heap.get?_none_of_le (Nat.le_trans F.above (Nat.le_trans (Nat.le_of_lt hLlt) ha))
  rw [hX] at hit
  refine ⟨_, _, X, t, news, R, rfl, hh, F.keeps hk, fun p hp => ⟨hk _ _ (N p hp).1, (N p hp).2⟩, he, hit, Nat.succ_ne_self _, far1 hLlt, Nat.ne_of_gt hLlt, freshI _ (Nat.le_succ _), freshI _ (Nat.le_refl _),
    fun p hp => ⟨far1' (Heap.lt_size (N p hp).1), Nat.ne_of_lt (Heap.lt_size (N p hp).1)⟩, modules_low hbig, hsz, hRl, hR0, ?_, ?_⟩
  · exact step _ _
  · intro _
    exact fin
end
/-- the texts so far: the letters in their order, each with two signs -/
def textsN (ns : List Nat) : SS := ns.zipIdx.map fun p => (⟨#[97 + p.2]⟩, text2 p.1)
theorem textsN_length (ns : List Nat) : (textsN ns).length = ns.length := by simp [textsN]
theorem textsN_snoc (ns : List Nat) (n : Nat) : textsN (ns ++ [n]) = textsN ns ++ [(⟨#[97 + ns.length]⟩, text2 n)] := by
  simp [textsN, List.zipIdx_append]
theorem textsN_put {ns : List Nat} {kvs : List (Str × Value)} (h : StrsD kvs (textsN ns)) (n : Nat) (t : Tok) : StrsD (stored kvs ⟨#[97 + ns.length]⟩ (.str (text2 n) t)) (textsN (ns ++ [n])) := by
  have h1 := h.put ⟨#[97 + ns.length]⟩ (text2 n) t
  have h2 : putS (textsN ns) ⟨#[97 + ns.length]⟩ (text2 n) = textsN (ns ++ [n]) := by
    rw [textsN_snoc]
    unfold putS
    rw [if_neg]
    intro q
    obtain ⟨p, hp, e⟩ := List.any_eq_true.mp q
    have e := of_decide_eq_true e
    unfold textsN at hp
    obtain ⟨r, hr, rfl⟩ := List.mem_map.mp hp
    have hl := (List.mem_zipIdx hr).2.1
    have e2 : 97 + r.2 = 97 + ns.length := by
      have := congrArg (fun x : Str => x.cps.toList) e
      simpa using this
    omega
  rw [h2] at h1; exact h1
def textsR (i : Nat) (kvs : List (Str × Value)) : Prop := ∃ ns : List Nat, ns.length = i ∧ StrsD kvs (textsN ns)
theorem sign6 {i c : Nat} (h : (Str.ofString "abcdef").cps[i]? = some c) : i < 6 ∧ c = 97 + i := by
  have hi : i < (Str.ofString "abcdef").cps.size := by
    rcases Nat.lt_or_ge i (Str.ofString "abcdef").cps.size with q | q
    · exact q
    · rw [Array.getElem?_eq_none q] at h; cases h
  have h6 : (Str.ofString "abcdef").cps.size = 6 := by decide +kernel
  rw [h6] at hi
  have : ∀ k : Fin 6, (Str.ofString "abcdef").cps[k.val]? = some (97 + k.val) := by decide +kernel
  have e := this ⟨i, hi⟩
  dsimp only at e
  rw [h] at e
  cases e
  exact ⟨hi, rfl⟩
end Mine
namespace Mine
section
variable {prog : Program} {w : World} {A : Around} {E : Value → Shared → Prop} {s : Shared} {h₀ : Heap} {L : Addr} {m : Str → Option Value} {news : List (Addr × Obj)}
theorem sum_nn : ∀ {ns : List Int}, (∀ x ∈ ns, 0 ≤ x) → 0 ≤ ns.sum
  | [], _ => by simp
  | n :: ns, h => by
    rw [List.sum_cons]
    have := sum_nn fun x hx => h x (List.mem_cons_of_mem n hx)
    have := h n List.mem_cons_self
    omega
theorem sum_nat {l : Addr} {o : Obj} {items : Array Value} {k : Nat} {ns : List Int} {Q : Value → Shared → Prop} (hh : A.handled = none) (F : Fr h₀ L s.heap m) (N : News h₀ L s.heap news) (hm : (l, o) ∈ news) (hc : o.cls = .type "list") (hd : o.data = .seq items k) (hi : IntsAre items.toList ns) (hp : ∀ x ∈ ns, 0 ≤ x)
    (h : ∀ (z : Nat) h' tk t', Fr h₀ L h' m → News h₀ L h' news → Q (.int (z : Int) t') { s with heap := h', toks := tk }) : wpAny (model prog w) A (call (.builtin "sum") [.ref l]) Q E s := by
  have hl : s.heap.IsList l items.toList.toArray := ⟨o, (N _ hm).1, hc, k, by rw [hd]⟩
  refine LSm.sum_ints F N hh hl hi fun h' tk t' F' N' => ?_
  obtain ⟨z, hz⟩ := Int.eq_ofNat_of_zero_le (sum_nn hp)
  rw [hz]
  exact h z h' tk t' F' N'
theorem pick_nn {ns : List Int} (h : ∀ x ∈ ns, 0 ≤ x) (lo hi st : Option Int) : ∀ x ∈ pickNums ns lo hi st, 0 ≤ x := by
  intro x hx
  unfold pickNums at hx
  obtain ⟨j, _, hj⟩ := List.mem_filterMap.mp hx
  exact h x (List.mem_of_getElem? hj)
theorem fmod_nn (l : List Int) (b : Int) (hb : 0 < b) : ∀ x ∈ l.map (fun k => k.fmod b), 0 ≤ x := by
  intro x hx
  obtain ⟨y, _, rfl⟩ := List.mem_map.mp hx
  exact Int.fmod_nonneg_of_pos _ hb
end
theorem text2_int (z : Int) (t u : Tok) : Pure 4 231 [.int z t, .int 2 u] [] (0 ≤ z) (fun r => ∃ n t', r = .str (text2 n) t') := by
  intro w mean mg mb dp un gd cn cs a ccd cl outer A₀ base h₀ L m news s Q E B F X N T hk hp hd' hu hret
  obtain ⟨n, rfl⟩ := Int.eq_ofNat_of_zero_le hp
  exact (text2_ok n t u).use B F X N T hk trivial hd' hu fun r h' tk' ⟨t', e⟩ F' N' => hret r h' tk' ⟨n, t', e⟩ F' N'
theorem text3_int (z : Int) (t u : Tok) : Pure 4 231 [.int z t, .int 3 u] [] (0 ≤ z) (fun r => ∃ n t', r = .str (text3 n) t') := by
  intro w mean mg mb dp un gd cn cs a ccd cl outer A₀ base h₀ L m news s Q E B F X N T hk hp hd' hu hret
  obtain ⟨n, rfl⟩ := Int.eq_ofNat_of_zero_le hp
  exact (text3_ok n t u).use B F X N T hk trivial hd' hu fun r h' tk' ⟨t', e⟩ F' N' => hret r h' tk' ⟨n, t', e⟩ F' N'
end Mine
namespace Mine
theorem getD_nn {l : List Int} (h : ∀ x ∈ l, 0 ≤ x) (k : Nat) : 0 ≤ l.getD k 0 := by
  rw [List.getD_eq_getElem?_getD]
  cases e : l[k]? with
  | none => exact Int.le_refl _
  | some x => exact h x (List.mem_of_getElem? e)
end Mine
end

section
open PySem PySem.W PyProof.Rows PySem.Calls PySem.Spec
set_option Elab.async false
set_option maxRecDepth 100000
namespace Mine
set_option hygiene false in
local macro_rules | `(tactic| walk_at "mine:sides") => `(tactic| (
  (case k1 => k_asm); (case k2 => k_asm); (case k3 => k_asm); (case k4 => k_asm); (case k5 => k_asm);
  (case k6 => first | exact rfl | assumption);
  (case k8 => ktr_room); (case k9 => first | ktr_units | (have hcL9 := cLine_is; (simp only [units_under_make, units_in1, units_deeper, Around.mark_units, units_caller]); (try dsimp only [ktrTop]); omega))))
local macro_rules | `(tactic| walk_at "call ref") => `(tactic| (k_here; k_dflt (refine' Pure.use (conv_name _ _ _) ?k1 ?k2 ?k3 ?k4 ?k5 ?k6 ?k7 ?k8 ?k9 ?_; walk_at "mine:sides"; (case k7 => assumption)); walk_at "mine:after"))
local macro_rules | `(tactic| walk_at "call ref") => `(tactic| (k_here; k_dflt (refine' Pure.use (conv_val _ _ _) ?k1 ?k2 ?k3 ?k4 ?k5 ?k6 ?k7 ?k8 ?k9 ?_; walk_at "mine:sides"; (case k7 => assumption)); walk_at "mine:after"))
local macro_rules | `(tactic| walk_at "exec For Tuple Name cons nil") => `(tactic| (k_here; (with_reducible rename Fr _ _ _ _ => kF); k_dflt (refine for_turnsF kF ?_)))

/-- Headers(list): an object whose one field bears that very list -/
def MkH (dp0 : Nat) (Lh : Addr) (pre : List (Addr × Obj) → Prop) : Prop :=
  ∀ (w : World) (mean : ExcName → Option Value) (mg mb : Str → Option Value) (dp un : Nat) (gd : Option (List Code)) (cn : Str) (cs : Scope) (a : Addr) (ccd : Value) (cl : List (Str × Addr)) (outer : List Env) (A₀ : Around) (base h₀ : Heap) (L : Addr) (m : Str → Option Value) (news : List (Addr × Obj)) (s : Shared)
    (Q E : Value → Shared → Prop),
    Below A₀ base outer h₀ → Fr h₀ L s.heap m → (hd.heap_39 w.params).In h₀ → News h₀ L s.heap news → Top hd.view_39 (looseW hd.view_39 [Str.ofString "_name_disallowed_re", Str.ofString "_value_disallowed_re"]) mean mg mb h₀ → cs.kind = .function → pre news → dp + dp0 < recursionLimit → un + 8 * dp0 < cLine →
    (∀ S d hh th n h' tk', Fr h₀ L h' m → News h₀ L h' ((S, instObj 171 d) :: (d, dictOf [⟨hh, .str (Str.ofString "_headers") th, .ref Lh⟩] n) :: news) → (@LT.lt Nat _ d S) → (∀ p ∈ news, p.1 < d) → Q (.ref S) { s with heap := h', toks := tk' }) →
    wpAny (model PySem.Challenge.rw_il0203_01.row.prog w) (ktrTop dp un gd cn cs L a ccd cl outer) (call (.ref 171) [.ref Lh]) Q E s
set_option maxHeartbeats 4000000 in
theorem init_ok (Lh : Addr) (k : Nat) (vs : List Value) (tab : Tab) :
    MkH 8 Lh (fun news => (Lh, listOf vs.toArray k) ∈ news ∧ TabIn news vs tab ∧ ∀ p ∈ tab, (32 ≤ p.1 ∧ p.1 < 127) ∧ ∀ z ∈ p.2.cps, okSign z) := by
  (( unfold MkH; k_fill; intro w mean mg mb dp un gd cn cs a ccd cl outer A₀ base h₀ L m news s Q E B F X N T hk hp hd' hu hret))
  obtain ⟨m3, hT, hK⟩ := hp
  k_dflt (refine' call_cls ?k1 ?k2 ?k3 ?k4 ?k5 ?k6 ?_; (case k1 => k_asm); (case k2 => k_asm); (case k3 => k_asm); (case k4 => k_is); (case k5 => k_is); (case k6 => k_is); k_whole; intro x1 d1 h1 F1 N1 l1 l2)
  have l3 : ∀ p ∈ news, p.1 ≠ d1 := fun p hp => Nat.ne_of_lt (l1 p hp)
  have l4 : @Ne Nat x1 d1 := Nat.ne_of_gt l2
  have l5 : ∀ p ∈ news, p.1 ≠ x1 := fun p hp => Nat.ne_of_lt (Nat.lt_trans (l1 p hp) l2)
  (k_dflt (first | (refine' code_def ?k1 ?k2 ?k3 ?k4 ?k5 ?kA ?kF ?kK ?k6 ?k7 ?k8 ?k9 ?kB ?_ ?c2 ?c3 ?c4 ?c5; (case kA => exact rfl); (case kF => exact rfl); (case kK => first | exact rfl | assumption); (case k1 => k_asm); (case k2 => k_asm); (case k3 => k_asm); (case k4 => k_asm); (case k5 => k_asm); (case k6 => k_is); (case k7 => k_is); (case k8 => ktr_room); (case k9 => first | exact BindsTo.of_eq rfl | exact binds_K (by k_in) rfl (by k_is) rfl rfl rfl); (case c5 => decide); (case kB => exact locs rfl); (case c2 => exact rfl); (case c3 => exact rfl); (case c4 => exact rfl); k_whole; intro g' L' h' FG' F' N' B' X' T'; (try dsimp only); (try k_lift B'); (try k_fold)) | (refine' code_defC ?k1 ?k2 ?k3 ?k4 ?k5 ?kA ?kF ?kK ?k6 ?k7 ?k8 ?k9 ?kB ?kD ?_ ?c2 ?c3 ?c4; (case kA => exact rfl); (case kF => exact rfl); (case kK => first | exact rfl | assumption); (case k1 => k_asm); (case k2 => k_asm); (case k3 => k_asm); (case k4 => k_asm); (case k5 => k_asm); (case k6 => k_is); (case k7 => k_is); (case k8 => ktr_room); (case k9 => first | exact BindsTo.of_eq rfl | exact binds_K (by k_in) rfl (by k_is) rfl rfl rfl); (case kB => exact rfl); (case kD => decide +kernel); (case c2 => exact rfl); (case c3 => exact rfl); (case c4 => exact rfl); k_whole; intro g' L' h' tk' cells' FG' F' N' Y' B' X' T' l1; (try have l0 : ∀ p ∈ rest, p.1 < L' := fun p hp => l1 p (List.mem_cons_of_mem _ hp)); (try k_lt l1); k_cells Y'; (try simp only [List.cons_append, List.nil_append] at N'); (try dsimp only); (try k_lift B'); (try k_fold))))
  k_steps
  (rename Fr _ _ _ _ => F2); (rename News _ _ _ _ => N2)
  obtain ⟨D9, hD9, N3⟩ : ∃ D9 : List (Addr × Obj), (∃ hh th n, D9 = (x1, instObj 171 d1) :: (d1, dictOf [⟨hh, .str (Str.ofString "_headers") th, .ref Lh⟩] n) :: news) ∧ News g' L' _ D9 := ⟨_, ⟨_, _, _, rfl⟩, N2⟩
  obtain ⟨mm, hms, F3⟩ : ∃ mm : Str → Option Value, mm (Str.ofString "self") = some (.ref x1) ∧ Fr g' L' _ mm := ⟨_, rfl, F2⟩
  have hmm : mm = fun z => if z = Str.ofString "self" then some (.ref x1) else mm z := by
    funext z
    by_cases h1 : z = Str.ofString "self"
    · rw [if_pos h1, h1, hms]
    · rw [if_neg h1]
  obtain ⟨hh9, th9, n9, rfl⟩ := hD9
  clear F2 N2
  refine turns_listN [Str.ofString "k", Str.ofString "v"] (fun i u news₁ => news₁ = (x1, instObj 171 d1) :: (d1, dictOf [⟨hh9, .str (Str.ofString "_headers") th9, .ref Lh⟩] n9) :: news) rfl F3 N3 (.tail _ (.tail _ m3)) rfl rfl rfl ?_ ?_ ?_
  · intro I i s' v Q' hv hI hq
    obtain ⟨a', k', x', t', u', n', rfl, _, _⟩ := hT.get hv
    exact wpAny_letOwnedTupleGo_listiter hI hq
  · rintro i v u _ h9 tk9 I oI hv rfl hI hIL F4 N4
    obtain ⟨a', k', x', t', u', n', rfl, hv', hm'⟩ := hT.get hv
    clear F3 N3
    simp only [over] at F4
    rw [hmm] at F4
    obtain ⟨hk', hx'⟩ := hK _ (List.mem_of_getElem? hv')
    dsimp only at hk' hx'
    have hk1 : ∀ z ∈ (⟨#[k']⟩ : Str).cps, okSign z := ok_one ⟨hk'.1, Nat.ne_of_lt hk'.2, Nat.lt_trans hk'.2 (by decide)⟩
    k_dflt (refine assign_pair rfl rfl F4 N4 (.tail _ (.tail _ (.tail _ (.tail _ hm')))) (fun h3 F5 N5 => ?_) rfl rfl)
    clear F4 N4
    k_steps
    (rename Fr _ _ _ _ => F6); (rename News _ _ _ _ => N6)
    refine ⟨_, _, _, _, rfl, F6, fun p hp => N6 p (.tail _ (.tail _ hp)), cb_drop N6 (by simp), fun p hp q => hI p hp (List.mem_singleton.mp q), ?_, rfl⟩
    intro z hz
    simp only [List.mem_cons, List.not_mem_nil, or_false, not_or] at hz
    simp only [hz.1, hz.2, if_false]
    exact (congrFun hmm z).symm
  · rintro h9 tk9 u _ rfl F4 N4
    clear F3 N3
    simp only [over] at F4
    rw [hmm] at F4
    k_steps
    (rename Fr _ _ _ _ => F6); (rename News _ _ _ _ => N6)
    exact hret _ _ _ _ _ _ _ F6 N6 l2 l1
end Mine
end

section
open PySem PySem.W PyProof.Rows PySem.Calls PySem.Spec
set_option Elab.async false
set_option maxRecDepth 100000
namespace Mine
/-- the things reached: the sign that spoke, and its way's number -/
abbrev Ent := List (Nat × Nat)
def spk (g : Nat → Option Str) (c : Nat) : Bool := (g (low c)).isSome
def txtX (g : Nat → Option Str) (c : Nat) : Str := (g (low c)).getD Str.empty
def lowsE (e : Ent) : List Nat := e.map fun p => low p.1
def addE (g : Nat → Option Str) (pk : Nat) (e : Ent) (p : Nat × Nat) : Ent := if spk g p.1 = true ∧ low p.1 ∉ lowsE e then e ++ [(p.1, 3 * pk + p.2 + 1)] else e
def turnE (g : Nat → Option Str) (pk : Nat) (e : Ent) (wt : List Nat) : Ent := wt.zipIdx.foldl (addE g pk) e
def runE (g : Nat → Option Str) : Nat → Ent → Nat → List Nat → Nat → Ent
  | 0, e, _, _, _ => e
  | n + 1, e, dn, wt, pk => if dn = (turnE g pk e wt).length then turnE g pk e wt else runE g n (turnE g pk e wt) (dn + 1) (txtX g ((turnE g pk e wt).getD dn (0, 0)).1).cps.toList ((turnE g pk e wt).getD dn (0, 0)).2
def entOf (g : Nat → Option Str) (R : Str) : Ent := runE g 7 [] 0 R.cps.toList 0
def mkT (g : Nat → Option Str) (e : Ent) : Tab := e.map fun p => (p.1, altS (txtX g p.1))
def outT (g : Nat → Option Str) (e : Ent) : Tab := e.map fun p => (p.1, txtX g p.1)
def preT (tab : Tab) (e : Ent) : Tab := tab.filter fun p => decide (low p.1 ∉ lowsE e)
def tabE (g : Nat → Option Str) (tab : Tab) (e : Ent) : Tab := preT tab e ++ mkT g e

theorem look_append (x y : Tab) (c : Nat) : look (x ++ y) c = (look x c).or (look y c) := by
  induction x with
  | nil => rfl
  | cons p r ih =>
    show (if low p.1 = low c then some p.2 else look (r ++ y) c) = (if low p.1 = low c then some p.2 else look r c).or (look y c)
    split
    · rfl
    · exact ih
theorem look_none {x : Tab} {c : Nat} (h : ∀ p ∈ x, low p.1 ≠ low c) : look x c = none := by
  induction x with
  | nil => rfl
  | cons p r ih =>
    unfold look
    rw [if_neg (h p List.mem_cons_self)]
    exact ih fun q hq => h q (List.mem_cons_of_mem _ hq)
theorem look_filter {x : Tab} {c : Nat} {q : Nat × Str → Bool} (h : ∀ p ∈ x, low p.1 = low c → q p = true) : look (x.filter q) c = look x c := by
  induction x with
  | nil => rfl
  | cons p r ih =>
    have ih := ih fun z hz => h z (List.mem_cons_of_mem _ hz)
    rw [List.filter_cons]
    by_cases e : low p.1 = low c
    · rw [if_pos (h p List.mem_cons_self e)]
      show look ((p.1, p.2) :: _) c = look ((p.1, p.2) :: r) c
      unfold look; rw [if_pos e, if_pos e]
    · have : look ((p.1, p.2) :: r) c = look r c := by
        show (if low p.1 = low c then _ else _) = _
        rw [if_neg e]
      show _ = look ((p.1, p.2) :: r) c
      rw [this]
      split
      · show look ((p.1, p.2) :: _) c = _
        show (if low p.1 = low c then _ else _) = _
        rw [if_neg e]; exact ih
      · exact ih
theorem look_mk {g : Nat → Option Str} {e : Ent} {c : Nat} (h : low c ∈ lowsE e) : look (mkT g e) c = some (altS (txtX g c)) := by
  induction e with
  | nil => exact absurd h List.not_mem_nil
  | cons p r ih =>
    show (if low p.1 = low c then _ else _) = _
    by_cases q : low p.1 = low c
    · rw [if_pos q]; unfold txtX; rw [q]
    · rw [if_neg q]
      refine ih ?_
      rcases List.mem_cons.mp h with h | h
      · exact absurd h.symm q
      · exact h

/-- what the walk through the table rests on -/
structure Net (g : Nat → Option Str) (tab : Tab) (Rch : Nat → Prop) : Prop where
  txt : ∀ z x, g z = some x → ∃ a b, x = ⟨#[a, b]⟩ ∧ 32 ≤ a ∧ a < 127 ∧ 32 ≤ b ∧ b < 127
  spks : ∀ c, spk g c = true → (isUp c || isLo c) = true
  looks : ∀ c, Rch c → (isUp c || isLo c) = true → look tab c = g (low c)
  clos : ∀ c, Rch c → spk g c = true → ∀ d ∈ (txtX g c).cps.toList, Rch d
  once : (tab.map fun p => low p.1).Nodup
  flat : ∀ p ∈ tab, hdS p.2 < 128

theorem and_or {a : Nat} (h : a < 127) : (a ||| 128) &&& 127 = a := by
  have : ∀ k : Fin 127, (k.val ||| 128) &&& 127 = k.val := by decide +kernel
  exact this ⟨a, h⟩
theorem or_gt (a : Nat) : 127 < a ||| 128 := Nat.lt_of_lt_of_le (by decide) Nat.right_le_or

section
variable {g : Nat → Option Str} {tab : Tab} {Rch : Nat → Prop}
theorem Net.two (N : Net g tab Rch) {c : Nat} (h : spk g c = true) : ∃ a b, txtX g c = ⟨#[a, b]⟩ ∧ 32 ≤ a ∧ a < 127 ∧ 32 ≤ b ∧ b < 127 := by
  unfold spk at h
  unfold txtX
  cases e : g (low c) with
  | none => rw [e] at h; cases h
  | some x => exact N.txt _ x e
theorem Net.alt (N : Net g tab Rch) {c : Nat} (h : spk g c = true) : 127 < hdS (altS (txtX g c)) := by
  obtain ⟨a, b, e, _⟩ := N.two h
  rw [e, altS_two]; exact or_gt a
theorem Net.back (N : Net g tab Rch) {c : Nat} (h : spk g c = true) : ascS (altS (txtX g c)) = txtX g c := by
  obtain ⟨a, b, e, _, h1, _, h2⟩ := N.two h
  rw [e, altS_two, ascS_two, and_or h1, and_or h2]
structure InvE (g : Nat → Option Str) (Rch : Nat → Prop) (e : Ent) : Prop where
  ok : ∀ p ∈ e, Rch p.1 ∧ spk g p.1 = true
  once : (lowsE e).Nodup
theorem inv_add {pk : Nat} {e : Ent} {p : Nat × Nat} (h : InvE g Rch e) (hp : Rch p.1) : InvE g Rch (addE g pk e p) ∧ e.length ≤ (addE g pk e p).length := by
  unfold addE
  split
  · rename_i q
    refine ⟨⟨?_, ?_⟩, by simp⟩
    · intro z hz
      rcases List.mem_append.mp hz with hz | hz
      · exact h.ok z hz
      · rw [List.mem_singleton.mp hz]; exact ⟨hp, q.1⟩
    · unfold lowsE
      rw [List.map_append, List.nodup_append]
      refine ⟨h.once, by simp, ?_⟩
      intro y hy z hz
      have hz' : z = low p.1 := by simpa using hz
      rw [hz']
      intro e'
      exact q.2 (e' ▸ hy)
  · exact ⟨h, Nat.le_refl _⟩
theorem inv_fold {pk : Nat} : ∀ {wt : List (Nat × Nat)} {e : Ent}, InvE g Rch e → (∀ p ∈ wt, Rch p.1) → InvE g Rch (wt.foldl (addE g pk) e) ∧ e.length ≤ (wt.foldl (addE g pk) e).length
  | [], _, h, _ => ⟨h, Nat.le_refl _⟩
  | p :: wt, e, h, hp => by
    obtain ⟨h1, h2⟩ := inv_add (pk := pk) h (hp p List.mem_cons_self)
    obtain ⟨h3, h4⟩ := inv_fold (pk := pk) (wt := wt) h1 fun q hq => hp q (List.mem_cons_of_mem _ hq)
    exact ⟨h3, Nat.le_trans h2 h4⟩
theorem zip_mem {l : List Nat} {p : Nat × Nat} {n : Nat} (h : p ∈ l.zipIdx n) : p.1 ∈ l := by
  have := List.mem_map_of_mem (f := Prod.fst) h
  rwa [List.zipIdx_map_fst] at this
theorem inv_turn {pk : Nat} {wt : List Nat} {e : Ent} (h : InvE g Rch e) (hp : ∀ c ∈ wt, Rch c) : InvE g Rch (turnE g pk e wt) ∧ e.length ≤ (turnE g pk e wt).length :=
  inv_fold h fun p hq => hp p.1 (zip_mem hq)

theorem step_tab (N : Net g tab Rch) {e : Ent} (h : InvE g Rch e) {pk c q : Nat} (hc : Rch c) : step1 (tabE g tab e, e.length) c = (tabE g tab (addE g pk e (c, q)), (addE g pk e (c, q)).length) := by
  unfold addE
  dsimp only
  by_cases hal : (isUp c || isLo c) = true
  · have hl : look (tabE g tab e) c = if low c ∈ lowsE e then some (altS (txtX g c)) else g (low c) := by
      unfold tabE
      rw [look_append]
      by_cases m : low c ∈ lowsE e
      · rw [if_pos m, look_mk m, look_none, Option.none_or]
        intro p hp
        have := (List.mem_filter.mp hp).2
        simp only [decide_eq_true_eq] at this
        exact fun q => this (q ▸ m)
      · rw [if_neg m]
        have h1 : look (preT tab e) c = look tab c := look_filter fun p _ he => by rw [he]; simpa using m
        have h2 : look (mkT g e) c = none := look_none fun p hp => by
          obtain ⟨q, hq, rfl⟩ := List.mem_map.mp hp
          exact fun he => m (he ▸ List.mem_map.mpr ⟨q, hq, rfl⟩)
        rw [h1, h2, Option.or_none]
        exact N.looks c hc hal
    by_cases m : low c ∈ lowsE e
    · rw [if_pos m] at hl
      rw [if_neg (fun q => q.2 m)]
      obtain ⟨p, hp, he⟩ := List.mem_map.mp m
      have hs : spk g c = true := by
        have := (h.ok p hp).2
        unfold spk at this ⊢
        rw [← he]; exact this
      exact step_had hal hl (N.alt hs)
    · rw [if_neg m] at hl
      cases hg : g (low c) with
      | none =>
        rw [if_neg (fun q => by have := q.1; unfold spk at this; rw [hg] at this; cases this)]
        rw [hg] at hl
        exact step_none hal hl
      | some x =>
        have hs : spk g c = true := by unfold spk; rw [hg]; rfl
        rw [if_pos ⟨hs, m⟩]
        rw [hg] at hl
        have hx : txtX g c = x := by unfold txtX; rw [hg]; rfl
        obtain ⟨a, b, e2, _, h1, _⟩ := N.two hs
        have hlow : ¬ 127 < hdS x := by rw [← hx, e2, hdS_two]; omega
        rw [step_new hal hl hlow]
        have e3 : setT (tabE g tab e) c (altS x) = tabE g tab (e ++ [(c, 3 * pk + q + 1)]) := by
          unfold setT tabE preT mkT
          rw [List.filter_append, List.filter_filter, List.map_append, List.append_assoc]
          congr 1
          · refine List.filter_congr fun p _ => ?_
            unfold lowsE
            rw [List.map_append]
            simp only [List.map_cons, List.map_nil, List.mem_append, List.mem_singleton, not_or, decide_not, Bool.decide_and]
            rw [Bool.and_comm]
          · rw [← hx]
            congr 1
            rw [List.filter_eq_self]
            intro p hp
            obtain ⟨z, hz, rfl⟩ := List.mem_map.mp hp
            have : low z.1 ≠ low c := fun he => m (he ▸ List.mem_map.mpr ⟨z, hz, rfl⟩)
            simpa using this
        rw [e3, List.length_append]; rfl
  · have hal' : (isUp c || isLo c) = false := by simpa using hal
    rw [if_neg (fun q => hal (N.spks c q.1))]
    exact step_out hal'
theorem fold_tab (N : Net g tab Rch) {pk : Nat} : ∀ {wt : List Nat} {e : Ent} {n : Nat}, InvE g Rch e → (∀ c ∈ wt, Rch c) → wt.foldl step1 (tabE g tab e, e.length) = (tabE g tab ((wt.zipIdx n).foldl (addE g pk) e), ((wt.zipIdx n).foldl (addE g pk) e).length)
  | [], _, _, _, _ => rfl
  | c :: wt, e, n, h, hp => by
    rw [List.foldl_cons, List.zipIdx_cons, List.foldl_cons, step_tab N h (pk := pk) (q := n) (hp c List.mem_cons_self)]
    exact fold_tab N (inv_add h (p := (c, n)) (hp c List.mem_cons_self)).1 fun d hd => hp d (List.mem_cons_of_mem _ hd)
theorem bfs_tab (N : Net g tab Rch) : ∀ {n : Nat} {e : Ent} {dn : Nat} {wt : Str} {pk : Nat}, InvE g Rch e → (∀ c ∈ wt.cps.toList, Rch c) → dn ≤ e.length → bfs n (tabE g tab e, e.length) dn wt = tabE g tab (runE g n e dn wt.cps.toList pk) ∧ InvE g Rch (runE g n e dn wt.cps.toList pk)
  | 0, _, _, _, _, h, _, _ => ⟨rfl, h⟩
  | n + 1, e, dn, wt, pk, h, hp, hd => by
    have hf := fold_tab N (pk := pk) (n := 0) h hp
    obtain ⟨h1, h2⟩ := inv_turn (pk := pk) h hp
    unfold runE
    change _ = (tabE g tab (turnE g pk e wt.cps.toList), (turnE g pk e wt.cps.toList).length) at hf
    generalize turnE g pk e wt.cps.toList = e' at *
    by_cases q : dn = e'.length
    · rw [if_pos q]
      exact ⟨bfs_brk hf.symm q, h1⟩
    · rw [if_neg q, bfs_go hf.symm q]
      have hlt : dn < e'.length := by omega
      have hm : e'.getD dn (0, 0) ∈ e' := by
        rw [List.getD_eq_getElem?_getD, List.getElem?_eq_getElem hlt]; exact List.getElem_mem hlt
      obtain ⟨k1, k2⟩ := h1.ok _ hm
      have ht : ascS (textAt (tabE g tab e') ((tabE g tab e').length - (e'.length - dn))) = txtX g (e'.getD dn (0, 0)).1 := by
        have hl : (tabE g tab e').length - (e'.length - dn) = (preT tab e').length + dn := by
          unfold tabE mkT
          rw [List.length_append, List.length_map]; omega
        rw [hl]
        unfold textAt tabE mkT
        rw [List.getElem?_append_right (Nat.le_add_right _ _), Nat.add_sub_cancel_left, List.getElem?_map, List.getElem?_eq_getElem hlt]
        have e9 : e'.getD dn (0, 0) = e'[dn] := by rw [List.getD_eq_getElem?_getD, List.getElem?_eq_getElem hlt]; rfl
        rw [e9] at k2 ⊢
        exact N.back k2
      rw [ht]
      exact bfs_tab N h1 (N.clos _ k1 k2) hlt
theorem fin_pre : ∀ {u v : Tab}, ((u ++ v).map fun p => low p.1).Nodup → (∀ p ∈ u, hdS p.2 < 128) → u.foldl finStep (u ++ v) = v
  | [], _, _, _ => rfl
  | p :: u, v, hn, h => by
    rw [List.foldl_cons]
    have e : finStep (p :: u ++ v) p = u ++ v := by
      unfold finStep
      have h1 := h p List.mem_cons_self
      rw [if_neg (by omega)]
      unfold delT
      rw [List.cons_append, List.map_cons, List.nodup_cons] at hn
      rw [List.cons_append, List.filter_cons, if_neg (by simp), List.filter_eq_self]
      intro q hq
      have : low q.1 ≠ low p.1 := fun he => hn.1 (List.mem_map.mpr ⟨q, hq, he⟩)
      simpa using this
    rw [e]
    rw [List.cons_append, List.map_cons, List.nodup_cons] at hn
    exact fin_pre hn.2 fun q hq => h q (List.mem_cons_of_mem _ hq)
theorem fin_mk (N : Net g tab Rch) : ∀ {e d : Ent}, ((lowsE (e ++ d))).Nodup → (∀ p ∈ e, spk g p.1 = true) → (mkT g e).foldl finStep (mkT g e ++ outT g d) = outT g (d ++ e)
  | [], d, _, _ => by rw [List.append_nil]; rfl
  | p :: e, d, hn, h => by
    show (mkT g e).foldl finStep (finStep ((p.1, altS (txtX g p.1)) :: (mkT g e ++ outT g d)) (p.1, altS (txtX g p.1))) = _
    have hs := h p List.mem_cons_self
    have e1 : finStep ((p.1, altS (txtX g p.1)) :: (mkT g e ++ outT g d)) (p.1, altS (txtX g p.1)) = mkT g e ++ outT g (d ++ [p]) := by
      unfold finStep
      rw [if_pos (show 127 < hdS (p.1, altS (txtX g p.1)).2 from N.alt hs)]
      unfold setT
      dsimp only
      rw [N.back hs, List.filter_cons, if_neg (by simp)]
      have : (mkT g e ++ outT g d).filter (fun q => decide (low q.1 ≠ low p.1)) = mkT g e ++ outT g d := by
        rw [List.filter_eq_self]
        intro q hq
        unfold lowsE at hn
        rw [List.cons_append, List.map_cons, List.nodup_cons] at hn
        have : low q.1 ≠ low p.1 := by
          intro he
          refine hn.1 (he ▸ ?_)
          rw [List.map_append, List.mem_append]
          rcases List.mem_append.mp hq with hq | hq
          · obtain ⟨z, hz, rfl⟩ := List.mem_map.mp hq
            exact .inl (List.mem_map.mpr ⟨z, hz, rfl⟩)
          · obtain ⟨z, hz, rfl⟩ := List.mem_map.mp hq
            exact .inr (List.mem_map.mpr ⟨z, hz, rfl⟩)
        simpa using this
      rw [this]
      unfold outT
      rw [List.map_append, ← List.append_assoc]; rfl
    rw [e1]
    have := fin_mk N (e := e) (d := d ++ [p]) ?_ fun q hq => h q (List.mem_cons_of_mem _ hq)
    · rw [this, List.append_assoc]; rfl
    · have hp : (lowsE (p :: e ++ d)).Perm (lowsE (e ++ (d ++ [p]))) := by
        unfold lowsE
        refine List.Perm.map _ ?_
        rw [← List.append_assoc]
        exact (List.perm_append_singleton p (e ++ d)).symm
      exact hp.nodup_iff.mp hn
/-- the collector's table is the row of the things reached -/
theorem collect_ent (N : Net g tab Rch) {R : Str} (hR : ∀ c ∈ R.cps.toList, Rch c) : collectP tab R = outT g (entOf g R) ∧ InvE g Rch (entOf g R) := by
  have h0 : InvE g Rch [] := ⟨fun p hp => absurd hp List.not_mem_nil, List.nodup_nil⟩
  have ht : tabE g tab [] = tab := by
    unfold tabE preT mkT lowsE
    simp
  have hb := bfs_tab N (n := 7) (dn := 0) (wt := R) (pk := 0) h0 hR (Nat.zero_le _)
  rw [ht] at hb
  refine ⟨?_, hb.2⟩
  show (bfs 7 (tab, ([] : Ent).length) 0 R).foldl finStep (bfs 7 (tab, ([] : Ent).length) 0 R) = _
  rw [hb.1]
  unfold entOf
  have h1 := hb.2
  generalize runE g 7 [] 0 R.cps.toList 0 = e at *
  have hn : ((tabE g tab e).map fun p => low p.1).Nodup := by
    unfold tabE
    rw [List.map_append, List.nodup_append]
    refine ⟨(List.Sublist.map (fun p : Nat × Str => low p.1) (List.filter_sublist (l := tab))).nodup N.once, ?_, ?_⟩
    · have : ((mkT g e).map fun p => low p.1) = lowsE e := by unfold mkT lowsE; rw [List.map_map]; rfl
      rw [this]; exact h1.once
    · intro y hy z hz
      obtain ⟨p, hp, rfl⟩ := List.mem_map.mp hy
      obtain ⟨q, hq, rfl⟩ := List.mem_map.mp hz
      obtain ⟨r, hr, rfl⟩ := List.mem_map.mp hq
      have := (List.mem_filter.mp hp).2
      simp only [decide_eq_true_eq] at this
      exact fun he => this (he ▸ List.mem_map.mpr ⟨r, hr, rfl⟩)
  unfold tabE at hn ⊢
  rw [List.foldl_append, fin_pre hn fun p hp => N.flat p (List.mem_filter.mp hp).1]
  have := fin_mk N (e := e) (d := []) (by rw [List.append_nil]; exact h1.once) fun p hp => (h1.ok p hp).2
  simpa [outT] using this
end
end Mine
end

section
open PySem PySem.W PyProof.Rows PySem.Calls PySem.Spec
set_option Elab.async false
set_option maxRecDepth 100000
namespace Mine
theorem sgn_all (m : Nat) : 32 ≤ sgn m ∧ sgn m < 127 := by
  have : ∀ k : Fin 16, 32 ≤ alpha16.getD k.val 0 ∧ alpha16.getD k.val 0 < 127 := by decide +kernel
  exact this ⟨m % 16, Nat.mod_lt _ (by decide)⟩
/-- a sign that is a letter speaks of a thing a to f, or it is the x -/
theorem sgn_letter (m : Nat) (h : (isUp (sgn m) || isLo (sgn m)) = true) : (97 ≤ low (sgn m) ∧ low (sgn m) ≤ 102) ∨ low (sgn m) = 120 := by
  have : ∀ k : Fin 16, (isUp (alpha16.getD k.val 0) || isLo (alpha16.getD k.val 0)) = true → (97 ≤ low (alpha16.getD k.val 0) ∧ low (alpha16.getD k.val 0) ≤ 102) ∨ low (alpha16.getD k.val 0) = 120 := by decide +kernel
  exact this ⟨m % 16, Nat.mod_lt _ (by decide)⟩ h
end Mine
end

section
open PySem PySem.W PyProof.Rows PySem.Calls PySem.Spec
set_option Elab.async false
set_option maxRecDepth 100000
namespace Mine
section
variable {prog : Program} {w : World} {A : Around} {E : Value → Shared → Prop} {s : Shared} {h₀ : Heap} {L : Addr} {m : Str → Option Value} {env : Env}
/-- a plain list comprehension whose turns make objects that last -/
theorem restN_by {elt : Expr} {x : Str} {scope : Scope} {cl : List (Str × Addr)} {S : List (Addr × Obj) → Prop} {P : Nat → Value → Prop} {Fin : List Value → List (Addr × Obj) → Prop} {n : Nat} (R : Nat → List Value → List (Addr × Obj) → Prop)
    (step : ∀ i v ys news I oI C oC D m₂ h tk (E' : Value → Shared → Prop), i < n → P i v → R i ys news → LCg.NsObj oC m₂ → m₂ x = some v → Fr h₀ L h m → News h₀ L h ((I, oI) :: (C, oC) :: (D, LCg.lst ys) :: news) → LCg.Off3 I C D news → ((@Ne Nat I C) ∧ (@Ne Nat I D) ∧ (@Ne Nat C D)) →
      wpAny (model prog w) A (eval elt (compEnvC scope cl C env)) (LCg.CompEnd h₀ L m { s with heap := h, toks := tk } I oI C oC D (LCg.lst ys) S (fun y news' => R (i + 1) (ys ++ [y]) news')) E' { s with heap := h, toks := tk })
    (fin : ∀ ys news, R n ys news → Fin ys news) : ∀ k i ys news, i + k = n → R i ys news → LCg.CompRest prog w A h₀ L m env elt x scope cl s S P Fin k i ys news := by
  intro k
  induction k with
  | zero =>
    intro i ys news hi hR
    exact LCg.CompRest.zero (fin ys news (by rw [← hi]; exact hR))
  | succ k ih =>
    intro i ys news hi hR
    refine LCg.CompRest.succ fun v I oI C oC D m₂ h tk E' hv hC hx F N off ne => ?_
    refine wpAny_mono (step i v ys news I oI C oC D m₂ h tk E' (by omega) hv hR hC hx F N off ne) (fun y s₂ hy => CompEnd_mono hy fun y n hn => ?_) fun _ _ e => e
    exact ih (i + 1) _ _ (by omega) hn

/-- the rows of a table as data -/
def datT (tab : Tab) : List Dat := tab.map fun p => Dat.tuple [.str ⟨#[p.1]⟩, .str p.2]
theorem tab_dat {news : List (Addr × Obj)} {vs : List Value} {tab : Tab} (h : TabIn news vs tab) : DatAll news vs (datT tab) := by
  induction h with
  | nil => exact .nil
  | cons hm _ ih => exact .cons (.tuple (vs := [_, _]) hm (.cons (.str _ _) (.cons (.str _ _) .nil))) ih
theorem pair_dat {news : List (Addr × Obj)} {vs : List Value} {l : SS} (h : PairIn news vs l) : DatAll news vs (l.map fun p => Dat.tuple [.str p.1, .str p.2]) := by
  induction h with
  | nil => exact .nil
  | cons hm _ ih => exact .cons (.tuple (vs := [_, _]) hm (.cons (.str _ _) (.cons (.str _ _) .nil))) ih
def pairsT (tab : Tab) : SS := tab.map fun p => (⟨#[p.1]⟩, p.2)
theorem ne_rows {a b : Addr} {news n₁ n₂ : List (Addr × Obj)} {xs ys : List Value} {ka kb : Nat} {tab : Tab} {Q : Value → Shared → Prop} (N : News h₀ L s.heap news) (ma : (a, listOf xs.toArray ka) ∈ news) (hT : TabIn n₁ xs tab) (sa : ∀ p ∈ n₁, p ∈ news)
    (mb : (b, listOf ys.toArray kb) ∈ news) (hP : PairIn n₂ ys (pairsT tab)) (sb : ∀ p ∈ n₂, p ∈ news) (ok : ∀ p ∈ tab, PyData.strOk ⟨#[p.1]⟩ = true ∧ PyData.strOk p.2 = true) (hu : A.units + 64 < cLine) (h : Q (.bool false) s) :
    wpAny (model prog w) A (compareOp .NotEq (.ref a) (.ref b)) Q E s := by
  have e : ((pairsT tab).map fun p => Dat.tuple [.str p.1, .str p.2]) = datT tab := by
    unfold pairsT datT
    rw [List.map_map]; rfl
  have hP' := pair_dat hP
  rw [e] at hP'
  have hok : ∀ d ∈ datT tab, kqdOk 8 d = true := by
    intro d hd
    obtain ⟨p, hp, rfl⟩ := List.mem_map.mp hd
    have := ok p hp
    simp [kqdOk, this.1, this.2]
  refine kqd_ne N ma rfl rfl (tab_dat hT) sa mb rfl rfl hP' sb hok hok hu ?_
  simpa using h
end
end Mine
namespace Mine
def tabN (ns : List Nat) : Tab := ns.zipIdx.map fun p => (97 + p.2, text2 p.1)
theorem tabN_at {ns : List Nat} {i : Nat} (h : i < ns.length) : (tabN ns)[i]? = some (97 + i, text2 (ns.getD i 0)) := by
  simp [tabN, h, List.getD]
theorem tabN_length (ns : List Nat) : (tabN ns).length = ns.length := by simp [tabN]
theorem valS_zip : ∀ (ns : List Nat) (k i : Nat), i < ns.length → valS ((ns.zipIdx k).map fun p => (⟨#[97 + p.2]⟩, text2 p.1)) ⟨#[97 + (k + i)]⟩ = some (text2 (ns.getD i 0))
  | [], _, _, h => absurd h (Nat.not_lt_zero _)
  | n :: ns, k, 0, _ => by
    rw [List.zipIdx_cons, List.map_cons, valS_cons]
    simp
  | n :: ns, k, i + 1, h => by
    rw [List.zipIdx_cons, List.map_cons, valS_cons]
    have hne : ¬ ((⟨#[97 + k]⟩ : Str) = ⟨#[97 + (k + (i + 1))]⟩) := by
      intro e
      have := congrArg (fun x : Str => x.cps.toList) e
      simp at this
    dsimp only
    rw [if_neg hne]
    have := valS_zip ns (k + 1) i (by simpa using h)
    rw [show k + (i + 1) = k + 1 + i by omega, this]
    simp
theorem textsN_val {ns : List Nat} {i : Nat} (h : i < ns.length) : valS (textsN ns) ⟨#[97 + i]⟩ = some (text2 (ns.getD i 0)) := by
  have := valS_zip ns 0 i h
  rw [Nat.zero_add] at this
  exact this
theorem MkH.use {d : Nat} {Lh : Addr} {pre : List (Addr × Obj) → Prop} (C : MkH d Lh pre)
    {w : World} {mean : ExcName → Option Value} {mg mb : Str → Option Value} {dp un : Nat} {gd : Option (List Code)} {cn : Str} {cs : Scope} {a : Addr} {ccd : Value} {cl : List (Str × Addr)} {outer : List Env} {A₀ : Around} {base h₀ : Heap} {L : Addr} {m : Str → Option Value} {news : List (Addr × Obj)} {s : Shared}
    {Q E : Value → Shared → Prop}
    (B : Below A₀ base outer h₀) (F : Fr h₀ L s.heap m) (X : (hd.heap_39 w.params).In h₀) (N : News h₀ L s.heap news) (T : Top hd.view_39 (looseW hd.view_39 [Str.ofString "_name_disallowed_re", Str.ofString "_value_disallowed_re"]) mean mg mb h₀)
    (hk : cs.kind = .function) (hp : pre news) (hd : dp + d < recursionLimit) (hu : un + 8 * d < cLine)
    (ret : ∀ S d hh th n h' tk', Fr h₀ L h' m → News h₀ L h' ((S, instObj 171 d) :: (d, dictOf [⟨hh, .str (Str.ofString "_headers") th, .ref Lh⟩] n) :: news) → (@LT.lt Nat _ d S) → (∀ p ∈ news, p.1 < d) → Q (.ref S) { s with heap := h', toks := tk' }) :
    wpAny (model PySem.Challenge.rw_il0203_01.row.prog w) (ktrTop dp un gd cn cs L a ccd cl outer) (call (.ref 171) [.ref Lh]) Q E s :=
  C w mean mg mb dp un gd cn cs a ccd cl outer A₀ base h₀ L m news s Q E B F X N T hk hp hd hu ret
theorem MkT.use {d : Nat} {f : Addr} {vs : List Value} {kw : List (Str × Value)} {pre : World → List (Addr × Obj) → Prop} {Out : List Value → List (Addr × Obj) → Prop} (C : MkT d f vs kw pre Out)
    {w : World} {mean : ExcName → Option Value} {mg mb : Str → Option Value} {dp un : Nat} {gd : Option (List Code)} {cn : Str} {cs : Scope} {a : Addr} {ccd : Value} {cl : List (Str × Addr)} {outer : List Env} {A₀ : Around} {base h₀ : Heap} {L : Addr} {m : Str → Option Value} {news : List (Addr × Obj)} {s : Shared}
    {Q E : Value → Shared → Prop}
    (B : Below A₀ base outer h₀) (F : Fr h₀ L s.heap m) (X : (hd.heap_39 w.params).In h₀) (N : News h₀ L s.heap news) (T : Top hd.view_39 (looseW hd.view_39 [Str.ofString "_name_disallowed_re", Str.ofString "_value_disallowed_re"]) mean mg mb h₀)
    (hk : cs.kind = .function) (hp : pre w news) (hd : dp + d < recursionLimit) (hu : un + 8 * d < cLine)
    (ret : ∀ R its k ext h' tk', Out its ext → Fr h₀ L h' m → News h₀ L h' ((R, listOf its.toArray k) :: (ext ++ news)) → Q (.ref R) { s with heap := h', toks := tk' }) :
    wpAny (model PySem.Challenge.rw_il0203_01.row.prog w) (ktrTop dp un gd cn cs L a ccd cl outer) (call (.ref f) vs kw) Q E s :=
  C w mean mg mb dp un gd cn cs a ccd cl outer A₀ base h₀ L m news s Q E B F X N T hk hp hd hu ret
theorem Fr.opq {h₀ h : Heap} {L : Addr} {m : Str → Option Value} (F : Fr h₀ L h m) : ∃ mm : Str → Option Value, Fr h₀ L h mm := ⟨m, F⟩
end Mine
namespace Mine
theorem News.opq {h₀ h : Heap} {L : Addr} {news : List (Addr × Obj)} (N : News h₀ L h news) : ∃ base, base = news ∧ News h₀ L h base := ⟨news, rfl, N⟩
end Mine

namespace Mine
theorem News.opq' {h₀ h : Heap} {L : Addr} {p : Addr × Obj} {news : List (Addr × Obj)} (N : News h₀ L h (p :: news)) : ∃ base, base = news ∧ News h₀ L h (p :: base) := ⟨news, rfl, N⟩
end Mine

namespace Mine
def tab0 (ns : List Nat) : Tab := (55, ⟨#[97, 98]⟩) :: tabN ns
theorem tabN_mem {ns : List Nat} {p : Nat × Str} (h : p ∈ tabN ns) : (97 ≤ p.1 ∧ p.1 < 97 + ns.length) ∧ ∃ n, p.2 = text2 n := by
  unfold tabN at h
  obtain ⟨q, hq, rfl⟩ := List.mem_map.mp h
  have := (List.mem_zipIdx hq).2.1
  dsimp only
  exact ⟨by omega, _, rfl⟩
theorem text2_ok8 (n : Nat) : ∀ z ∈ (text2 n).cps, okSign z := ok_two ⟨(sgn_all _).1, Nat.ne_of_lt (sgn_all _).2, Nat.lt_trans (sgn_all _).2 (by decide)⟩ ⟨(sgn_all _).1, Nat.ne_of_lt (sgn_all _).2, Nat.lt_trans (sgn_all _).2 (by decide)⟩
theorem tab0_ok {ns : List Nat} (h : ns.length = 6) : ∀ p ∈ tab0 ns, (32 ≤ p.1 ∧ p.1 < 127) ∧ ∀ z ∈ p.2.cps, okSign z := by
  intro p hp
  rcases List.mem_cons.mp hp with rfl | hp
  · refine ⟨by decide, ok_two ?_ ?_⟩ <;> (refine ⟨by decide, by decide, by decide⟩)
  · obtain ⟨h1, n, h2⟩ := tabN_mem hp
    refine ⟨by omega, ?_⟩
    rw [h2]; exact text2_ok8 n
theorem seven : Str.ofString "7" = ⟨#[55]⟩ := by decide +kernel
theorem ab : Str.ofString "ab" = ⟨#[97, 98]⟩ := by decide +kernel
end Mine
end

section
open PySem PySem.W PySem.Builtin PySem.Builtin.Str PyProof.Rows PySem.Calls PySem.Spec
set_option Elab.async false
set_option maxRecDepth 100000
namespace Mine
theorem made_rev (a b c : Nat) (t t1 t2 : Tok) : sliceMade ⟨#[a, b, c]⟩ t none (some (0, t1)) (some (-1, t2)) = .str ⟨#[c, b]⟩ := by
  have e : slicePicked ⟨#[a, b, c]⟩ none (some (0, t1)) (some (-1, t2)) = [2, 1] := by
    show strSliceIndices none (some 0) (-1) 3 = [2, 1]
    decide +kernel
  unfold sliceMade
  rw [e]
  rfl
section
variable {prog : Program} {w : World} {A : Around} {E : Value → Shared → Prop} {s : Shared} {h₀ : Heap} {L : Addr} {m : Str → Option Value} {news : List (Addr × Obj)}
theorem slice_rev {value slice : PySem.Expr} {a b c : Nat} {t t1 t2 : Tok} {Q : Value → Shared → Prop} (F₀ : Fr h₀ L s.heap m) (N : News h₀ L s.heap news)
    (h : ∀ h' t' k, Fr h₀ L h' m → News h₀ L h' news → Q (.str ⟨#[c, b]⟩ t') { s with heap := h', toks := k })
    (hs : subscripted slice false (.str ⟨#[a, b, c]⟩ t) (.ref s.heap.objs.size) = operate [.ref s.heap.objs.size, .str ⟨#[a, b, c]⟩ t] (getItem (.str ⟨#[a, b, c]⟩ t) (.ref s.heap.objs.size)))
    (ht : ∀ r, letTemporaryGo value (.str ⟨#[a, b, c]⟩ t) r = pure ()) :
    wpAny (model prog w) A (subscriptTail value slice (.str ⟨#[a, b, c]⟩ t) (.ref s.heap.objs.size)) Q E { s with heap := s.heap.push { cls := .type "slice", data := .fields #[.none, .int 0 t1, .int (-1) t2] } } := by
  refine tail_of_ItemOn ⟨"str", _, F.slot_str_getitem.lookup, typeIs_str _ _ _, wpAny_getItem_str_slice (l := none) (u := some (0, t1)) (st := some (-1, t2)) ⟨_, Heap.get?_push_size _ rfl, rfl, rfl⟩ rfl ?_⟩ hs ht
  rw [made_rev]
  exact ⟨by show 2 ≤ sizeLine; rw [sizeLine_eq]; omega, h _ _ _ (F₀.push _) (N.grown fun _ _ e => Heap.get?_push_of_some _ e)⟩
end
end Mine
namespace Mine
section
variable {prog : Program} {w : World} {A : Around} {s : Shared} {env : Env} {h₀ : Heap}
/-- over a tuple that the ledger bears, by what holds at its turns -/
theorem turns_tupN {E : Value → Shared → Prop} {Q : Flow → Shared → Prop} {x : Str} {px : Pos} {body : List Stmt} {T : Addr} {items : List Value} {o : Obj} {nn : Nat} {m : Str → Option Value} {news : List (Addr × Obj)} (names : List Str) (P : Nat → (Str → Option Value) → List (Addr × Obj) → Prop)
    (hh : A.handled = none) (F : Fr h₀ env.locals s.heap m) (N : News h₀ env.locals s.heap ((T, o) :: news)) (hc : o.cls = .type "tuple") (hd : o.data = .seq items.toArray nn) (h0 : P 0 m news)
    (hk : env.scope.kind = .function) (hx : env.kindOf x = some .local) (hxn9 : x ∈ names)
    (step : ∀ i v u news₁ h tk I oI, items[i]? = some v → P i u news₁ → (∀ p ∈ news₁, p.1 ≠ I) → I ≠ T → oI.cls = .type "tuple_iterator" → Fr h₀ env.locals h (fun y => if y = x then some v else over names u m y) → News h₀ env.locals h ((I, oI) :: (T, o) :: news₁) →
      wpAny (model prog w) A (execs body env) (TurnEnd h₀ env.locals [I] [(I, oI), (T, o)] (fun m' news' => (∀ z, z ∉ names → m' z = m z) ∧ P (i + 1) m' news') Q { s with heap := h, toks := tk }) E { s with heap := h, toks := tk })
    (done : ∀ h tk u news₁, P items.length u news₁ → Fr h₀ env.locals h (over names u m) → News h₀ env.locals h news₁ → Q .next { s with heap := h, toks := tk }) :
    wpAny (model prog w) A (pyIter (.ref T)) (fun it s₂ => Turns prog w A h₀ env (.Name x px) body Q E it s₂) E s := by
  have hp : (env.scope.kind == .class || (env.scope.kind == .module && env.locals != env.globals)) = false := by rw [hk]; rfl
  have hmm := N _ (.head _)
  have N0 : News h₀ env.locals s.heap news := fun p hp => N p (.tail _ hp)
  have hls : s.heap.IsTuple T items.toArray := ⟨o, hmm.1, hc, nn, hd⟩
  have hlt : T < s.heap.objs.size := Heap.lt_size hmm.1
  have hne : T ≠ s.heap.objs.size := Nat.ne_of_lt hlt
  refine wpAny_pyIter_tuple hls ?_
  have W := Walks.tuple (prog := prog) (w := w) hh s.heap.objs.size T hne items.toArray
  have hI0 : h₀.get? s.heap.objs.size = none := next_is_new F
  have hL0 : h₀.get? T = none := hmm.2.2
  let St : Nat → Heap → Prop := fun i h => (h.IsTupleIter s.heap.objs.size T i ∧ h.IsTuple T items.toArray) ∧ h.get? T = some o
  have W' : Walks prog w A s.heap.objs.size [s.heap.objs.size, T] [s.heap.objs.size] items.toArray.size (fun i v => items.toArray[i]? = some v) St := by
    refine ⟨W.sub, fun i h h' st hk => ⟨W.frame i h h' st.1 hk, hk T (by simp) o st.2⟩, fun i s' Q' E' hi st hQ => ?_, fun s' Q' E' st hQ => W.done s' Q' E' st.1 hQ, fun i s' Q' E' st hQ => W.self i s' Q' E' st.1 hQ⟩
    exact W.item i s' Q' E' hi st.1 fun v h' tk hp hst hk => hQ v h' tk hp ⟨hst, hk T o (by simpa using hne) st.2⟩ hk
  refine ⟨_, _, _, _, _, _, m, news, fun i m₁ news₁ => (∀ z, z ∉ names → m₁ z = m z) ∧ P i m₁ news₁, rfl, W', ?_, ?_, ?_, ⟨⟨⟨_, Heap.get?_push_size _ rfl, rfl, rfl⟩, ⟨o, Heap.get?_push_of_some _ hmm.1, hc, nn, hd⟩⟩, Heap.get?_push_of_some _ hmm.1⟩, F.push _, (fun p hp => ⟨Heap.get?_push_of_some _ (N0 p hp).1, (N0 p hp).2⟩), ⟨fun _ _ => rfl, h0⟩, ?_, ?_, ?_⟩
  · intro hq
    rcases List.mem_cons.mp hq with e | hq
    · exact absurd F.ns.lt (e ▸ Nat.lt_irrefl _)
    · exact hmm.2.1 (List.mem_singleton.mp hq).symm
  · intro b hb
    rw [List.mem_singleton.mp hb]; exact hI0
  · intro p hp hI
    exact absurd (Heap.lt_size (N0 p hp).1) ((List.mem_singleton.mp hI) ▸ Nat.lt_irrefl _)
  · intro i s' v Q' _ _ hQ'
    exact wpAny_pure hQ'
  · rintro i v m₁ news₁ h tk own hi hP ⟨he, hJ⟩ hn hof hcov st F₁ N₁ O₁
    obtain ⟨oI, hoI, hoC, _⟩ := id st.1.1
    have mI := hcov s.heap.objs.size (by simp) hI0 oI hoI
    have mL := hcov T (by simp) hL0 o st.2
    have sub : ∀ p ∈ own, p ∈ [(s.heap.objs.size, oI), (T, o)] := fun p hp => by
      have e := (O₁ p hp).1
      rcases List.mem_cons.mp (hof p hp) with h1 | h1
      · rw [h1, hoI] at e
        have : p = (s.heap.objs.size, oI) := Prod.ext h1 (Option.some.inj e).symm
        rw [this]; exact List.mem_cons_self
      · have h1 := List.mem_singleton.mp h1
        rw [h1, st.2] at e
        have : p = (T, o) := Prod.ext h1 (Option.some.inj e).symm
        rw [this]; exact List.mem_cons_of_mem _ List.mem_cons_self
    have hn' : ∀ p ∈ news₁, p.1 ≠ s.heap.objs.size := fun p hp q => hn p hp (by rw [q]; exact List.mem_singleton.mpr rfl)
    refine wpAny_assign_Name (wpAny_storeName_local hx F₁.ns (fun h₂ hn₂ hs₂ => ?_) hp)
    have F₂ := F₁.set hn₂ hs₂
    have N₂ : News h₀ env.locals h₂ ((s.heap.objs.size, oI) :: (T, o) :: news₁) := News.set (fun p hp => by
      rcases List.mem_cons.mp hp with rfl | hp
      · exact O₁ _ mI
      · rcases List.mem_cons.mp hp with rfl | hp
        · exact O₁ _ mL
        · exact N₁ p hp) hs₂
    rw [over_of he] at F₂
    refine wpAny_mono (step i v m₁ news₁ h₂ _ _ oI (by simpa using hP) hJ hn' (Ne.symm hne) hoC F₂ N₂) (fun f s₃ h₃ => ?_) fun _ _ e => e
    have h₄ := h₃.mono sub fun _ _ j => j
    cases f with
    | next =>
      obtain ⟨h', tk', m', news', e, r⟩ := h₄
      exact ⟨h', tk', m', news', e, r⟩
    | cont =>
      obtain ⟨h', tk', m', news', e, r⟩ := h₄
      exact ⟨h', tk', m', news', e, r⟩
    | brk => exact h₄
    | ret v => exact h₄
  · rintro h tk m₁ news₁ ⟨he, hJ⟩ _ F₁ N₁
    have : items.toArray.size = items.length := by simp
    exact done h tk m₁ news₁ (this ▸ hJ) (over_of he ▸ F₁) N₁
end
end Mine

namespace Mine
theorem tab_drop {A B : List (Addr × Obj)} {I : Addr} {oI : Obj} {vs : List Value} {tab : Tab} (h : TabIn (A ++ (I, oI) :: B) vs tab) (hc : oI.cls = .type "tuple_iterator") : TabIn (A ++ B) vs tab := by
  induction h with
  | nil => exact .nil
  | @cons a k x t u n vs tab hm _ ih =>
    refine .cons (t := t) (u := u) (n := n) ?_ ih
    rcases List.mem_append.mp hm with hm | hm
    · exact List.mem_append_left _ hm
    · rcases List.mem_cons.mp hm with e | hm
      · have := congrArg (fun p : Addr × Obj => p.2.cls) e
        dsimp only at this
        rw [hc] at this
        simp at this
      · exact List.mem_append_right _ hm
end Mine
end

section
open PySem PySem.W PyProof.Rows PySem.Calls PySem.Spec
set_option Elab.async false
set_option maxRecDepth 100000
namespace Mine
/-- what a turn of the law's loop rests on -/
structure TurnOk (tx : SS) (tab : Tab) (R : Str) : Prop where
  good : Good tab
  flat : ∀ p ∈ tab, hdS p.2 < 128
  signs : ∀ c ∈ R.cps, 32 ≤ c ∧ c < 127
  same : pairsT (collectP tab R) = leftP tx R
  ok : ∀ p ∈ collectP tab R, PyData.strOk ⟨#[p.1]⟩ = true ∧ PyData.strOk p.2 = true
  len : (collectP tab R).length ≤ 1000
  hTX : ∀ x ∈ letters, x.length ≠ 0 → (valS tx x).isSome = true
  hTL : ∀ x ∈ letters, (textOf tx R x).length ≤ 3 ∧ ∀ c ∈ (textOf tx R x).cps, c < 127
  hrow : ∀ r ∈ rowsL (rounds tx R 6).1, (valS tx r.2).isSome = true ∧ (valS (rounds tx R 6).2 r.2).isSome = true
  hr6 : (rowsL (rounds tx R 6).1).length ≤ 6
  hkl : ∀ p ∈ (rounds tx R 6).1, p.1.length ≤ 1 ∧ p.2.length ≤ 1000
  hok : 2 ≤ (rowsL (rounds tx R 6).1).length → okT (rowsL (rounds tx R 6).1).length (ltAt (rowsL (rounds tx R 6).1)) (kas_sort (rowsL (rounds tx R 6).1).length) = true ∧ ∀ i ∈ (runT (ltAt (rowsL (rounds tx R 6).1)) (kas_sort (rowsL (rounds tx R 6).1).length)).toList, i < (rowsL (rounds tx R 6).1).length
  ho6 : (orderW (rowsL (rounds tx R 6).1)).length ≤ 6
def rev2 (n : Nat) : Str := ⟨#[sgn (n / 256), sgn (n / 16)]⟩
def tabAt (ns : List Nat) (n : Nat) : Nat → Tab
  | 0 => tab0 ns
  | 1 => collectP (tab0 ns) (text3 n)
  | _ => collectP (collectP (tab0 ns) (text3 n)) (rev2 n)
def srcAt (n : Nat) : Nat → Str
  | 0 => text3 n
  | _ => rev2 n
theorem tabAt_next (ns : List Nat) (n i : Nat) (h : i < 2) : tabAt ns n (i + 1) = collectP (tabAt ns n i) (srcAt n i) := by
  match i, h with
  | 0, _ => rfl
  | 1, _ => rfl
end Mine
namespace Mine
theorem src_at {n i : Nat} {t1 t2 : Tok} {v : Value} (h : [Value.str (text3 n) t1, Value.str ⟨#[sgn (n / 256), sgn (n / 16)]⟩ t2][i]? = some v) : i < 2 ∧ ∃ tr, v = .str (srcAt n i) tr := by
  match i, h with
  | 0, h => simp at h; exact ⟨by decide, t1, h.symm⟩
  | 1, h => simp at h; exact ⟨by decide, t2, h.symm⟩
end Mine
end

section
open PySem PySem.W PyProof.Rows PySem.Calls PySem.Spec
set_option Elab.async false
set_option maxRecDepth 100000
namespace Mine
/-- what speaks along the ways, the way by its number -/
inductive Way (g : Nat → Option Str) (R : Str) : Nat → Nat → Prop
  | root {q c : Nat} : R.cps.toList[q]? = some c → spk g c = true → Way g R (q + 1) c
  | step {k p q c : Nat} : Way g R k p → (txtX g p).cps.toList[q]? = some c → spk g c = true → Way g R (3 * k + q + 1) c
/-- texts are short -/
structure Short (g : Nat → Option Str) (R : Str) : Prop where
  root : R.cps.toList.length ≤ 3
  txt : ∀ c, spk g c = true → (txtX g c).cps.toList.length ≤ 3
section
variable {g : Nat → Option Str} {R : Str}
theorem Way.spk {k c : Nat} (h : Way g R k c) : spk g c = true := by
  cases h <;> assumption
theorem Way.pos {k c : Nat} (h : Way g R k c) : 1 ≤ k := by
  cases h <;> omega
theorem get_lt' {α : Type} {l : List α} {q : Nat} {c : α} (h : l[q]? = some c) : q < l.length := (List.getElem?_eq_some_iff.mp h).1
theorem get_lt {l : List Nat} {q c : Nat} (h : l[q]? = some c) : q < l.length := (List.getElem?_eq_some_iff.mp h).1
theorem Way.one (S : Short g R) : ∀ {k c d : Nat}, Way g R k c → Way g R k d → c = d := by
  intro k c d h
  induction h generalizing d with
  | @root q c hq _ =>
    intro h2
    have := get_lt hq
    have := S.root
    generalize hk : q + 1 = k at h2
    cases h2 with
    | @root q' _ hq' _ =>
      have e : q' = q := by omega
      rw [e, hq] at hq'
      exact Option.some.inj hq'
    | @step k' p' q' _ h' hq' _ =>
      have := h'.pos
      omega
  | @step k p q c h hq _ ih =>
    intro h2
    have h3 := get_lt hq
    have h4 := S.txt p h.spk
    generalize hk : 3 * k + q + 1 = n at h2
    cases h2 with
    | @root q' _ hq' _ =>
      have := get_lt hq'
      have := S.root
      have := h.pos
      omega
    | @step k' p' q' _ h' hq' _ =>
      have h5 := get_lt hq'
      have h6 := S.txt p' h'.spk
      have ek : k' = k := by omega
      have eq : q' = q := by omega
      subst ek; subst eq
      have := ih h'
      subst this
      rw [hq] at hq'
      exact Option.some.inj hq'

/-- the row of the things reached is closed, rises, and holds ways -/
structure DoneE (g : Nat → Option Str) (R : Str) (e : Ent) : Prop where
  rise : e.Pairwise fun a b => a.2 < b.2
  once : (lowsE e).Nodup
  ways : ∀ p ∈ e, Way g R p.2 p.1
  root : ∀ q c, R.cps.toList[q]? = some c → spk g c = true → ∃ p ∈ e, low p.1 = low c ∧ p.2 ≤ q + 1
  next : ∀ p ∈ e, ∀ q c, (txtX g p.1).cps.toList[q]? = some c → spk g c = true → ∃ r ∈ e, low r.1 = low c ∧ r.2 ≤ 3 * p.2 + q + 1
  from' : ∀ (i : Nat) (p : Nat × Nat), e[i]? = some p → (∃ q, R.cps.toList[q]? = some p.1 ∧ p.2 = q + 1) ∨ ∃ (j : Nat) (r : Nat × Nat) (q : Nat), j < i ∧ e[j]? = some r ∧ (txtX g r.1).cps.toList[q]? = some p.1 ∧ p.2 = 3 * r.2 + q + 1
theorem txt_low {c d : Nat} (h : low c = low d) : txtX g c = txtX g d := by unfold txtX; rw [h]
theorem spk_low {c d : Nat} (h : low c = low d) : spk g c = spk g d := by unfold Mine.spk; rw [h]
theorem DoneE.least {e : Ent} (D : DoneE g R e) : ∀ {k c : Nat}, Way g R k c → ∃ p ∈ e, low p.1 = low c ∧ p.2 ≤ k := by
  intro k c h
  induction h with
  | @root q c hq hs => exact D.root q c hq hs
  | @step k p q c h hq hs ih =>
    obtain ⟨r, hr, e1, e2⟩ := ih
    obtain ⟨t, ht, e3, e4⟩ := D.next r hr q c (by rw [txt_low e1]; exact hq) hs
    exact ⟨t, ht, e3, by omega⟩

/-- while the row grows: dn of its sources have been gone through -/
def srcK (e : Ent) : Nat → Nat
  | 0 => 0
  | j + 1 => (e.getD j (0, 0)).2
def srcT (g : Nat → Option Str) (R : Str) (e : Ent) : Nat → List Nat
  | 0 => R.cps.toList
  | j + 1 => (txtX g (e.getD j (0, 0)).1).cps.toList
structure MidE (g : Nat → Option Str) (R : Str) (e : Ent) (dn m : Nat) : Prop where
  le : dn ≤ e.length
  rise : e.Pairwise fun a b => a.2 < b.2
  once : (lowsE e).Nodup
  spks : ∀ p ∈ e, spk g p.1 = true
  top : ∀ p ∈ e, p.2 < 3 * srcK e dn + m + 1
  done : ∀ j, j < dn → ∀ q c, (srcT g R e j)[q]? = some c → spk g c = true → ∃ p ∈ e, low p.1 = low c ∧ p.2 ≤ 3 * srcK e j + q + 1
  part : ∀ q c, q < m → (srcT g R e dn)[q]? = some c → spk g c = true → ∃ p ∈ e, low p.1 = low c ∧ p.2 ≤ 3 * srcK e dn + q + 1
  from' : ∀ (i : Nat) (p : Nat × Nat), e[i]? = some p → ∃ j q, j ≤ i ∧ j ≤ dn ∧ (srcT g R e j)[q]? = some p.1 ∧ p.2 = 3 * srcK e j + q + 1
theorem srcK_app {e f : Ent} {j : Nat} (h : j ≤ e.length) : srcK (e ++ f) j = srcK e j := by
  cases j with
  | zero => rfl
  | succ j =>
    show ((e ++ f).getD j (0, 0)).2 = (e.getD j (0, 0)).2
    rw [List.getD_eq_getElem?_getD, List.getD_eq_getElem?_getD, List.getElem?_append_left (by omega)]
theorem srcT_app {e f : Ent} {j : Nat} (h : j ≤ e.length) : srcT g R (e ++ f) j = srcT g R e j := by
  cases j with
  | zero => rfl
  | succ j =>
    show (txtX g ((e ++ f).getD j (0, 0)).1).cps.toList = (txtX g (e.getD j (0, 0)).1).cps.toList
    rw [List.getD_eq_getElem?_getD, List.getD_eq_getElem?_getD, List.getElem?_append_left (by omega)]
theorem mid_step {e : Ent} {dn m c : Nat} (M : MidE g R e dn m) (hm : (srcT g R e dn)[m]? = some c) : MidE g R (addE g (srcK e dn) e (c, m)) dn (m + 1) ∧ srcK (addE g (srcK e dn) e (c, m)) dn = srcK e dn ∧ srcT g R (addE g (srcK e dn) e (c, m)) dn = srcT g R e dn := by
  unfold addE
  dsimp only
  split
  · rename_i hq
    have hmem : ∀ p ∈ e, p ∈ e ++ [(c, 3 * srcK e dn + m + 1)] := fun p hp => List.mem_append_left _ hp
    refine ⟨⟨?_, ?_, ?_, ?_, ?_, ?_, ?_, ?_⟩, srcK_app M.le, srcT_app M.le⟩
    · rw [List.length_append]; have := M.le; omega
    · rw [List.pairwise_append]
      refine ⟨M.rise, by simp, ?_⟩
      intro a ha b hb
      rw [List.mem_singleton.mp hb]
      exact M.top a ha
    · unfold lowsE
      rw [List.map_append, List.nodup_append]
      refine ⟨M.once, by simp, ?_⟩
      intro y hy z hz
      have hz' : z = low c := by simpa using hz
      rw [hz']
      exact fun e' => hq.2 (e' ▸ hy)
    · intro p hp
      rcases List.mem_append.mp hp with hp | hp
      · exact M.spks p hp
      · rw [List.mem_singleton.mp hp]; exact hq.1
    · intro p hp
      rw [srcK_app M.le]
      rcases List.mem_append.mp hp with hp | hp
      · have := M.top p hp; omega
      · rw [List.mem_singleton.mp hp]
        show 3 * srcK e dn + m + 1 < _
        omega
    · intro j hj q d hd hs
      have hj' : j ≤ e.length := by have := M.le; omega
      rw [srcT_app hj'] at hd
      rw [srcK_app hj']
      obtain ⟨p, hp, h1, h2⟩ := M.done j hj q d hd hs
      exact ⟨p, hmem p hp, h1, h2⟩
    · intro q d hqm hd hs
      rw [srcT_app M.le] at hd
      rw [srcK_app M.le]
      rcases Nat.lt_or_ge q m with h | h
      · obtain ⟨p, hp, h1, h2⟩ := M.part q d h hd hs
        exact ⟨p, hmem p hp, h1, h2⟩
      · have eq : q = m := by omega
        subst eq
        rw [hm] at hd
        have ec := Option.some.inj hd
        exact ⟨(c, 3 * srcK e dn + q + 1), List.mem_append_right _ List.mem_cons_self, by rw [ec], Nat.le_refl _⟩
    · intro i p hp
      rcases Nat.lt_or_ge i e.length with h | h
      · rw [List.getElem?_append_left h] at hp
        obtain ⟨j, q, h1, h2, h3, h4⟩ := M.from' i p hp
        have hj' : j ≤ e.length := by omega
        exact ⟨j, q, h1, h2, by rw [srcT_app hj']; exact h3, by rw [srcK_app hj']; exact h4⟩
      · rw [List.getElem?_append_right h] at hp
        have h0 : i - e.length = 0 := by
          have := get_lt' hp
          simpa using this
        rw [h0] at hp
        have ep : (c, 3 * srcK e dn + m + 1) = p := by simpa using hp
        refine ⟨dn, m, by have := M.le; omega, Nat.le_refl _, ?_, ?_⟩
        · rw [srcT_app M.le, ← ep]; exact hm
        · rw [srcK_app M.le, ← ep]
  · rename_i hq
    refine ⟨⟨M.le, M.rise, M.once, M.spks, fun p hp => by have := M.top p hp; omega, M.done, ?_, M.from'⟩, rfl, rfl⟩
    intro q d hqm hd hs
    rcases Nat.lt_or_ge q m with h | h
    · exact M.part q d h hd hs
    · have eq : q = m := by omega
      subst eq
      rw [hm] at hd
      have ec := Option.some.inj hd
      subst ec
      have hin : low c ∈ lowsE e := Classical.byContradiction fun hn => hq ⟨hs, hn⟩
      obtain ⟨p, hp, he⟩ := List.mem_map.mp hin
      exact ⟨p, hp, he, by have := M.top p hp; omega⟩
end
end Mine
end

section
open PySem PySem.W PyProof.Rows PySem.Calls PySem.Spec
set_option Elab.async false
set_option maxRecDepth 100000
namespace Mine
section
variable {g : Nat → Option Str} {R : Str}
theorem mid_fold : ∀ {wt : List Nat} {e : Ent} {dn m pk : Nat}, MidE g R e dn m → pk = srcK e dn → (srcT g R e dn).drop m = wt → MidE g R ((wt.zipIdx m).foldl (addE g pk) e) dn (m + wt.length) ∧ srcK ((wt.zipIdx m).foldl (addE g pk) e) dn = srcK e dn ∧ srcT g R ((wt.zipIdx m).foldl (addE g pk) e) dn = srcT g R e dn
  | [], _, _, _, _, M, _, _ => ⟨M, rfl, rfl⟩
  | c :: wt, e, dn, m, pk, M, hk, hd => by
    have hm : (srcT g R e dn)[m]? = some c := by
      have := congrArg (fun l => l[0]?) hd
      simpa using this
    obtain ⟨M1, k1, t1⟩ := mid_step M hm
    rw [← hk] at M1 k1 t1
    rw [List.zipIdx_cons, List.foldl_cons]
    have hd' : (srcT g R (addE g pk e (c, m)) dn).drop (m + 1) = wt := by
      rw [t1, ← List.drop_drop, hd]; rfl
    obtain ⟨M2, k2, t2⟩ := mid_fold (pk := pk) M1 (by rw [k1, hk]) hd'
    refine ⟨?_, by rw [k2, k1, hk], by rw [t2, t1]⟩
    rw [List.length_cons, show m + (wt.length + 1) = m + 1 + wt.length by omega]
    exact M2
theorem mid_turn {e : Ent} {dn : Nat} (M : MidE g R e dn 0) : MidE g R (turnE g (srcK e dn) e (srcT g R e dn)) dn (srcT g R (turnE g (srcK e dn) e (srcT g R e dn)) dn).length := by
  obtain ⟨M1, _, t1⟩ := mid_fold (pk := srcK e dn) M rfl (by rw [List.drop_zero])
  rw [Nat.zero_add] at M1
  unfold turnE
  rw [t1]
  exact M1
theorem key_pos {e : Ent} {dn m : Nat} (M : MidE g R e dn m) : ∀ (i : Nat) (p : Nat × Nat), e[i]? = some p → 1 ≤ p.2 := by
  intro i p h
  obtain ⟨j, q, _, _, _, h4⟩ := M.from' i p h
  omega
theorem src_rise {e : Ent} {dn m j : Nat} (M : MidE g R e dn m) (h : j < e.length) : srcK e j < srcK e (j + 1) := by
  have e1 : srcK e (j + 1) = (e[j]).2 := by
    show (e.getD j (0, 0)).2 = _
    rw [List.getD_eq_getElem?_getD, List.getElem?_eq_getElem h]; rfl
  rw [e1]
  cases j with
  | zero => exact key_pos M 0 _ (List.getElem?_eq_getElem h)
  | succ j =>
    have h' : j < e.length := by omega
    have e2 : srcK e (j + 1) = (e[j]).2 := by
      show (e.getD j (0, 0)).2 = _
      rw [List.getD_eq_getElem?_getD, List.getElem?_eq_getElem h']; rfl
    rw [e2]
    exact List.pairwise_iff_getElem.mp M.rise j (j + 1) h' h (Nat.lt_succ_self _)
theorem src_len (S : Short g R) {e : Ent} {dn m j : Nat} (M : MidE g R e dn m) (h : j ≤ e.length) : (srcT g R e j).length ≤ 3 := by
  cases j with
  | zero => exact S.root
  | succ j =>
    have h' : j < e.length := by omega
    refine S.txt _ (M.spks _ ?_)
    rw [List.getD_eq_getElem?_getD, List.getElem?_eq_getElem h']
    exact List.getElem_mem h'
theorem mid_next (S : Short g R) {e : Ent} {dn : Nat} (M : MidE g R e dn (srcT g R e dn).length) (h : dn < e.length) : MidE g R e (dn + 1) 0 := by
  refine ⟨h, M.rise, M.once, M.spks, ?_, ?_, ?_, ?_⟩
  · intro p hp
    have h1 := M.top p hp
    have h2 := src_len S M M.le
    have h3 := src_rise M h
    omega
  · intro j hj q c hc hs
    rcases Nat.lt_or_ge j dn with h1 | h1
    · exact M.done j h1 q c hc hs
    · have ej : j = dn := by omega
      subst ej
      exact M.part q c (get_lt hc) hc hs
  · intro q c hq; exact absurd hq (Nat.not_lt_zero _)
  · intro i p hp
    obtain ⟨j, q, h1, h2, h3⟩ := M.from' i p hp
    exact ⟨j, q, h1, by omega, h3⟩
theorem src_all {e : Ent} {dn : Nat} (M : MidE g R e dn (srcT g R e dn).length) (h : dn = e.length) : ∀ j, j ≤ e.length → ∀ q c, (srcT g R e j)[q]? = some c → spk g c = true → ∃ p ∈ e, low p.1 = low c ∧ p.2 ≤ 3 * srcK e j + q + 1 := by
  intro j hj q c hc hs
  rcases Nat.lt_or_ge j dn with h1 | h1
  · exact M.done j h1 q c hc hs
  · have ej : j = dn := by omega
    subst ej
    exact M.part q c (get_lt hc) hc hs
theorem mid_done {e : Ent} {dn : Nat} (M : MidE g R e dn (srcT g R e dn).length) (h : dn = e.length) : DoneE g R e := by
  have hall := src_all M h
  have hfrom : ∀ (i : Nat) (p : Nat × Nat), e[i]? = some p → (∃ q, R.cps.toList[q]? = some p.1 ∧ p.2 = q + 1) ∨ ∃ (j : Nat) (r : Nat × Nat) (q : Nat), j < i ∧ e[j]? = some r ∧ (txtX g r.1).cps.toList[q]? = some p.1 ∧ p.2 = 3 * r.2 + q + 1 := by
    intro i p hp
    obtain ⟨j, q, h1, h2, h3, h4⟩ := M.from' i p hp
    cases j with
    | zero => exact .inl ⟨q, h3, by rw [h4]; show 3 * 0 + q + 1 = q + 1; omega⟩
    | succ j =>
      have hi := get_lt' hp
      have hj : j < e.length := by omega
      have ej : e.getD j (0, 0) = e[j] := by rw [List.getD_eq_getElem?_getD, List.getElem?_eq_getElem hj]; rfl
      refine .inr ⟨j, e[j], q, by omega, List.getElem?_eq_getElem hj, ?_, ?_⟩
      · rw [← ej]; exact h3
      · rw [← ej]; exact h4
  refine ⟨M.rise, M.once, ?_, ?_, ?_, hfrom⟩
  · have key : ∀ (n i : Nat) (p : Nat × Nat), i < n → e[i]? = some p → Way g R p.2 p.1 := by
      intro n
      induction n with
      | zero => intro i p h1; exact absurd h1 (Nat.not_lt_zero _)
      | succ n ih =>
        intro i p h1 hp
        have hs := M.spks p (List.mem_of_getElem? hp)
        rcases hfrom i p hp with ⟨q, h2, h3⟩ | ⟨j, r, q, h2, h3, h4, h5⟩
        · rw [h3]; exact .root h2 hs
        · rw [h5]; exact .step (ih j r (by omega) h3) h4 hs
    intro p hp
    obtain ⟨i, hi, rfl⟩ := List.getElem_of_mem hp
    exact key (i + 1) i _ (Nat.lt_succ_self _) (List.getElem?_eq_getElem hi)
  · intro q c hc hs
    obtain ⟨p, hp, h1, h2⟩ := hall 0 (Nat.zero_le _) q c hc hs
    exact ⟨p, hp, h1, by have : srcK e 0 = 0 := rfl; omega⟩
  · intro p hp q c hc hs
    obtain ⟨i, hi, rfl⟩ := List.getElem_of_mem hp
    have ei : e.getD i (0, 0) = e[i] := by rw [List.getD_eq_getElem?_getD, List.getElem?_eq_getElem hi]; rfl
    have := hall (i + 1) hi q c (by show (txtX g (e.getD i (0, 0)).1).cps.toList[q]? = _; rw [ei]; exact hc) hs
    have ek : srcK e (i + 1) = (e[i]).2 := by show (e.getD i (0, 0)).2 = _; rw [ei]
    rw [ek] at this
    exact this
theorem mid_zero : MidE g R [] 0 0 :=
  ⟨Nat.le_refl _, List.Pairwise.nil, List.nodup_nil, (fun p hp => absurd hp List.not_mem_nil), (fun p hp => absurd hp List.not_mem_nil), (fun j hj => absurd hj (Nat.not_lt_zero _)), (fun q c hq => absurd hq (Nat.not_lt_zero _)), (fun i p hp => by simp at hp)⟩
theorem ent_six (hg : ∀ z, (g z).isSome = true → 97 ≤ z ∧ z ≤ 102) {e : Ent} (hn : (lowsE e).Nodup) (hs : ∀ p ∈ e, spk g p.1 = true) : e.length ≤ 6 := by
  have := nodup_le (x := lowsE e) (y := [97, 98, 99, 100, 101, 102]) hn (by
    intro z hz
    obtain ⟨p, hp, rfl⟩ := List.mem_map.mp hz
    have := hg _ (hs p hp)
    simp only [List.mem_cons, List.not_mem_nil, or_false]
    omega)
  unfold lowsE at this
  rw [List.length_map] at this
  exact this
theorem run_done (S : Short g R) (hg : ∀ z, (g z).isSome = true → 97 ≤ z ∧ z ≤ 102) : ∀ {n : Nat} {e : Ent} {dn : Nat}, MidE g R e dn 0 → n + dn = 7 → DoneE g R (runE g n e dn (srcT g R e dn) (srcK e dn))
  | 0, e, dn, M, h => by
    have := ent_six hg M.once M.spks
    have := M.le
    omega
  | n + 1, e, dn, M, h => by
    have M1 := mid_turn M
    unfold runE
    generalize turnE g (srcK e dn) e (srcT g R e dn) = e' at *
    by_cases q : dn = e'.length
    · rw [if_pos q]
      exact mid_done M1 q
    · rw [if_neg q]
      have hlt : dn < e'.length := by have := M1.le; omega
      exact run_done S hg (mid_next S M1 hlt) (by omega)
theorem ent_done (S : Short g R) (hg : ∀ z, (g z).isSome = true → 97 ≤ z ∧ z ≤ 102) : DoneE g R (entOf g R) := run_done S hg (n := 7) (e := []) (dn := 0) mid_zero rfl
end
end Mine
end

section
open PySem PySem.W PyProof.Rows PySem.Calls PySem.Spec
set_option Elab.async false
set_option maxRecDepth 100000
namespace Mine
def keyS (w : Str) : Nat := keyL 0 w.cps.toList
theorem ltP_key {x y : Str} (hx : DigL x.cps.toList) (hy : DigL y.cps.toList) : ltP x.length x y.length y = decide (keyS x < keyS y) := by
  unfold ltP
  have lx : x.length = x.cps.toList.length := by simp [PySem.Str.length]
  have ly : y.length = y.cps.toList.length := by simp [PySem.Str.length]
  by_cases e : (x.length : Int) = y.length
  · rw [if_pos e]
    have e' : x.cps.toList.length = y.cps.toList.length := by omega
    by_cases q : x = y
    · rw [if_pos q, q]; simp
    · rw [if_neg q]
      exact decide_eq_decide.mpr (key_lex e' hx hy)
  · rw [if_neg e]
    refine decide_eq_decide.mpr ⟨fun h => key_short (by omega) hx hy, fun h => ?_⟩
    rcases Nat.lt_or_ge x.cps.toList.length y.cps.toList.length with h1 | h1
    · omega
    · have := key_short (x := y.cps.toList) (y := x.cps.toList) (by omega) hy hx
      unfold keyS at h
      omega
theorem key_way (w : Str) (q : Nat) : keyS (w ++ digS q) = 3 * keyS w + q + 1 := by
  show keyL 0 (w.cps ++ #[48 + q]).toList = _
  rw [Array.toList_append, show (#[48 + q] : Array Nat).toList = [48 + q] from rfl, keyL_snoc]
  unfold keyS
  omega
theorem dig_way {w : Str} {q : Nat} (h : DigL w.cps.toList) (hq : q < 3) : DigL (w ++ digS q).cps.toList := by
  show DigL (w.cps ++ #[48 + q]).toList
  rw [Array.toList_append, show (#[48 + q] : Array Nat).toList = [48 + q] from rfl]
  intro d hd
  rcases List.mem_append.mp hd with hd | hd
  · exact h d hd
  · rw [List.mem_singleton.mp hd]; omega
def gT (tx : SS) (z : Nat) : Option Str := valS tx ⟨#[z]⟩
def oneS (z : Nat) : Str := ⟨#[z]⟩
theorem one_inj {a b : Nat} (h : (⟨#[a]⟩ : Str) = ⟨#[b]⟩) : a = b := by
  have := congrArg (fun x : Str => x.cps.toList) h
  simpa using this
theorem one_ne_nil {a : Nat} : (⟨#[a]⟩ : Str) ≠ Str.ofString "" := by
  intro h
  have h2 := congrArg (fun x : Str => x.length) h
  have h3 : (Str.ofString "").length = 0 := by decide +kernel
  rw [h3] at h2
  simp [PySem.Str.length] at h2
/-- what the reckoning by rounds rests on -/
structure TxOk (tx : SS) (R : Str) : Prop where
  has : ∀ z, 97 ≤ z → z ≤ 102 → (gT tx z).isSome = true
  keys : ∀ k, (valS tx k).isSome = true → ∃ z, 97 ≤ z ∧ z ≤ 102 ∧ k = ⟨#[z]⟩
  txt : ∀ z x, gT tx z = some x → ∃ a b, x = ⟨#[a, b]⟩ ∧ 32 ≤ a ∧ a < 127 ∧ 32 ≤ b ∧ b < 127
  rlen : R.length ≤ 3
  rsg : ∀ c ∈ R.cps.toList, c < 127
theorem letters_eq : letters = Str.ofString "" :: [97, 98, 99, 100, 101, 102].map oneS := by decide +kernel
theorem letter_is {x : Str} (h : x ∈ letters) : x = Str.ofString "" ∨ ∃ z, 97 ≤ z ∧ z ≤ 102 ∧ x = ⟨#[z]⟩ := by
  rw [letters_eq] at h
  rcases List.mem_cons.mp h with h | h
  · exact .inl h
  · obtain ⟨z, hz, rfl⟩ := List.mem_map.mp h
    refine .inr ⟨z, ?_, ?_, rfl⟩ <;> (simp only [List.mem_cons, List.not_mem_nil, or_false] at hz; omega)
theorem letter_of {z : Nat} (h1 : 97 ≤ z) (h2 : z ≤ 102) : (⟨#[z]⟩ : Str) ∈ letters := by
  rw [letters_eq]
  refine List.mem_cons_of_mem _ (List.mem_map.mpr ⟨z, ?_, rfl⟩)
  simp only [List.mem_cons, List.not_mem_nil, or_false]
  omega
section
variable {tx : SS} {R : Str} {st : SS × SS}
theorem TxOk.lows (T : TxOk tx R) {z : Nat} (h : (gT tx z).isSome = true) : 97 ≤ z ∧ z ≤ 102 := by
  obtain ⟨y, h1, h2, h3⟩ := T.keys _ h
  have := one_inj h3
  omega
theorem TxOk.short (T : TxOk tx R) : Short (gT tx) R := by
  refine ⟨by have := T.rlen; simpa [PySem.Str.length] using this, fun c hc => ?_⟩
  unfold spk at hc
  unfold txtX
  cases e : gT tx (low c) with
  | none => rw [e] at hc; cases hc
  | some x =>
    obtain ⟨a, b, rfl, _⟩ := T.txt _ _ e
    simp
theorem text_root : textOf tx R (Str.ofString "") = R := by
  unfold textOf
  rw [if_pos (by decide +kernel)]
theorem text_one (z : Nat) : textOf tx R ⟨#[z]⟩ = (gT tx z).getD Str.empty := by
  unfold textOf
  rw [if_neg (by simp [PySem.Str.length])]; rfl
theorem TxOk.low127 (T : TxOk tx R) {letter : Str} (h : letter ∈ letters) : ∀ c ∈ (textOf tx R letter).cps.toList, c < 127 := by
  rcases letter_is h with rfl | ⟨z, h1, h2, rfl⟩
  · rw [text_root]; exact T.rsg
  · rw [text_one]
    cases e : gT tx z with
    | none => intro c hc; simp [Str.empty] at hc
    | some x =>
      obtain ⟨a, b, rfl, _, h4, _, h6⟩ := T.txt _ _ e
      intro c hc
      have : c = a ∨ c = b := by simpa using hc
      omega

structure V (tx : SS) (R : Str) (st : SS × SS) : Prop where
  nil : valS st.1 (Str.ofString "") = some (Str.ofString "")
  one : ∀ z w, valS st.1 ⟨#[z]⟩ = some w → ∃ c, low c = z ∧ Way (gT tx) R (keyS w) c ∧ DigL w.cps.toList ∧ valS st.2 ⟨#[z]⟩ = some ⟨#[c]⟩
  keys : ∀ k, (valS st.1 k).isSome = true → k = Str.ofString "" ∨ ∃ z, 97 ≤ z ∧ z ≤ 102 ∧ k = ⟨#[z]⟩
  once : (st.1.map fun p => p.1).Nodup
def HasL (st : SS × SS) (l : Str) (k : Nat) : Prop := ∃ w, valS st.1 l = some w ∧ keyS w ≤ k ∧ DigL w.cps.toList
theorem valS_mem {l : SS} {k v : Str} (h : valS l k = some v) : (k, v) ∈ l := by
  unfold valS at h
  cases e : l.find? fun p => decide (p.1 = k) with
  | none => rw [e] at h; cases h
  | some p =>
    rw [e] at h
    have h1 := List.find?_some e
    have h2 := List.mem_of_find?_eq_some e
    have h3 : p.1 = k := of_decide_eq_true h1
    have h4 : p.2 = v := by simpa using h
    rw [← h3, ← h4]; exact h2
theorem put_once {l : SS} (h : (l.map fun p => p.1).Nodup) (k v : Str) : ((putS l k v).map fun p => p.1).Nodup := by
  unfold putS
  split
  · rw [List.map_map]
    have : ((fun p : Str × Str => p.1) ∘ fun p : Str × Str => if p.1 = k then (p.1, v) else p) = fun p => p.1 := by
      funext p
      simp only [Function.comp]
      split <;> rfl
    rw [this]; exact h
  · rename_i hn
    rw [List.map_append, List.nodup_append]
    refine ⟨h, by simp, ?_⟩
    intro y hy z hz
    obtain ⟨p, hp, rfl⟩ := List.mem_map.mp hy
    have hz' : z = k := by simpa using hz
    rw [hz']
    intro e
    exact hn (List.any_eq_true.mpr ⟨p, hp, decide_eq_true e⟩)
theorem V.dig (v : V tx R st) {letter w : Str} (hl : letter ∈ letters) (h : valS st.1 letter = some w) : DigL w.cps.toList := by
  rcases letter_is hl with rfl | ⟨z, _, _, rfl⟩
  · rw [v.nil] at h
    have e := Option.some.inj h
    rw [← e]
    intro d hd
    have : (Str.ofString "").cps.toList = [] := by decide +kernel
    rw [this] at hd
    exact absurd hd List.not_mem_nil
  · obtain ⟨c, _, _, h3, _⟩ := v.one z w h
    exact h3
theorem V.on (v : V tx R st) (T : TxOk tx R) {letter w : Str} (hl : letter ∈ letters) (h : valS st.1 letter = some w) {q c : Nat} (hq : (textOf tx R letter).cps.toList[q]? = some c) (hs : spk (gT tx) c = true) : Way (gT tx) R (3 * keyS w + q + 1) c ∧ q < 3 := by
  rcases letter_is hl with rfl | ⟨z, _, _, rfl⟩
  · rw [v.nil] at h
    have e := Option.some.inj h
    rw [text_root] at hq
    have e2 : keyS (Str.ofString "") = 0 := by decide +kernel
    rw [← e, e2]
    refine ⟨?_, by have := get_lt hq; have := T.short.root; omega⟩
    rw [show 3 * 0 + q + 1 = q + 1 by omega]
    exact .root hq hs
  · obtain ⟨d, h1, h2, _, _⟩ := v.one z w h
    rw [text_one, ← h1] at hq
    have hq' : (txtX (gT tx) d).cps.toList[q]? = some c := hq
    exact ⟨.step h2 hq' hs, by have := get_lt hq'; have := T.short.txt d h2.spk; omega⟩
theorem step_V (T : TxOk tx R) (v : V tx R st) {letter : Str} (hl : letter ∈ letters) (hp : (valS st.1 letter).isSome = true) {q c : Nat} (hq : (textOf tx R letter).cps.toList[q]? = some c) :
    V tx R (stepS tx letter st (⟨#[c]⟩, q)) ∧ (∀ l k, HasL st l k → HasL (stepS tx letter st (⟨#[c]⟩, q)) l k) ∧ (∀ kk, HasL st letter kk → spk (gT tx) c = true → HasL (stepS tx letter st (⟨#[c]⟩, q)) ⟨#[low c]⟩ (3 * kk + q + 1)) := by
  have hc : c < 127 := T.low127 hl c (List.mem_of_getElem? hq)
  obtain ⟨w, hw⟩ := Option.isSome_iff_exists.mp hp
  have hwS : wayS st letter q = w ++ digS q := by unfold wayS; rw [hw]; rfl
  have hkk : ∀ kk, HasL st letter kk → keyS w ≤ kk := by
    rintro kk ⟨w', h1, h2, _⟩
    rw [hw] at h1
    rw [Option.some.inj h1]; exact h2
  cases ht : takes tx st (wayS st letter q) (Txt.lower ⟨#[c]⟩) with
  | false =>
    rw [stepS_no (p := (⟨#[c]⟩, q)) ht]
    refine ⟨v, fun _ _ h => h, fun kk hk hs => ?_⟩
    have hk' := hkk kk hk
    rw [lower_code c hc] at ht
    unfold takes at ht
    have hs' : (valS tx ⟨#[low c]⟩).isSome = true := hs
    rw [hs', Bool.true_and, Bool.or_eq_false_iff] at ht
    obtain ⟨t1, t2⟩ := ht
    have t1' : (valS st.1 ⟨#[low c]⟩).isSome = true := by simpa using t1
    obtain ⟨w2, hw2⟩ := Option.isSome_iff_exists.mp t1'
    obtain ⟨d, _, _, hd2, _⟩ := v.one _ _ hw2
    obtain ⟨_, hq3⟩ := v.on T hl hw hq hs
    have hd1 := dig_way (q := q) (v.dig hl hw) hq3
    rw [hw2, hwS] at t2
    have t3 : ltP (w ++ digS q).length (w ++ digS q) w2.length w2 = false := t2
    rw [ltP_key hd1 hd2, key_way] at t3
    have t4 := of_decide_eq_false t3
    exact ⟨w2, hw2, by omega, hd2⟩
  | true =>
    rw [stepS_yes (p := (⟨#[c]⟩, q)) ht]
    dsimp only
    rw [lower_code c hc] at ht ⊢
    unfold takes at ht
    rw [Bool.and_eq_true] at ht
    obtain ⟨t1, t2⟩ := ht
    have hs : spk (gT tx) c = true := t1
    obtain ⟨hW, hq3⟩ := v.on T hl hw hq hs
    have hd1 := dig_way (q := q) (v.dig hl hw) hq3
    rw [hwS] at t2 ⊢
    refine ⟨⟨?_, ?_, ?_, put_once v.once _ _⟩, ?_, ?_⟩
    · rw [valS_put, if_neg (Ne.symm one_ne_nil)]; exact v.nil
    · intro z w' h
      dsimp only at h ⊢
      rw [valS_put] at h ⊢
      by_cases e : (⟨#[z]⟩ : Str) = ⟨#[low c]⟩
      · rw [if_pos e] at h ⊢
        have e' := Option.some.inj h
        rw [← e']
        exact ⟨c, (one_inj e).symm, by rw [key_way]; exact hW, hd1, rfl⟩
      · rw [if_neg e] at h ⊢
        exact v.one z w' h
    · intro k h
      dsimp only at h
      rw [valS_put] at h
      by_cases e : k = ⟨#[low c]⟩
      · obtain ⟨h1, h2⟩ := T.lows hs
        exact .inr ⟨low c, h1, h2, e⟩
      · rw [if_neg e] at h
        exact v.keys k h
    · rintro l k ⟨w', h1, h2, h3⟩
      by_cases e : l = ⟨#[low c]⟩
      · subst e
        refine ⟨w ++ digS q, by dsimp only; rw [valS_put, if_pos rfl], ?_, hd1⟩
        rw [h1] at t2
        have t3 : (!(some w').isSome || ltP (w ++ digS q).length (w ++ digS q) w'.length w') = true := t2
        rw [ltP_key hd1 h3] at t3
        have t4 : keyS (w ++ digS q) < keyS w' := by simpa using t3
        omega
      · exact ⟨w', by dsimp only; rw [valS_put, if_neg e]; exact h1, h2, h3⟩
    · intro kk hk _
      have := hkk kk hk
      exact ⟨w ++ digS q, by dsimp only; rw [valS_put, if_pos rfl], by rw [key_way]; omega, hd1⟩
end
end Mine
end

section
open PySem PySem.W PyProof.Rows PySem.Calls PySem.Spec
set_option Elab.async false
set_option maxRecDepth 100000
namespace Mine
section
variable {tx : SS} {R : Str} {st : SS × SS}
theorem zip_sign {X : Str} {p : Str × Nat} (h : p ∈ (signs X).zipIdx) : ∃ c, p = (⟨#[c]⟩, p.2) ∧ X.cps.toList[p.2]? = some c := by
  obtain ⟨x, q⟩ := p
  have := List.mem_zipIdx_iff_getElem?.mp h
  dsimp only at this
  unfold signs at this
  rw [List.getElem?_map, Option.map_eq_some_iff] at this
  obtain ⟨c, h1, h2⟩ := this
  exact ⟨c, by rw [← h2], h1⟩
theorem sign_zip {X : Str} {q c : Nat} (h : X.cps.toList[q]? = some c) : ((⟨#[c]⟩ : Str), q) ∈ (signs X).zipIdx := by
  refine List.mem_zipIdx_iff_getElem?.mpr ?_
  show (signs X)[q]? = some _
  unfold signs
  rw [List.getElem?_map, h]; rfl
theorem has_some {l : Str} {k : Nat} (h : HasL st l k) : (valS st.1 l).isSome = true := by
  obtain ⟨w, h1, _⟩ := h
  rw [h1]; rfl
theorem letter_V (T : TxOk tx R) (v : V tx R st) {letter : Str} (hl : letter ∈ letters) :
    V tx R (stepL tx R st letter) ∧ (∀ l k, HasL st l k → HasL (stepL tx R st letter) l k) ∧ (∀ kk q c, HasL st letter kk → (textOf tx R letter).cps.toList[q]? = some c → spk (gT tx) c = true → HasL (stepL tx R st letter) ⟨#[low c]⟩ (3 * kk + q + 1)) := by
  unfold stepL
  by_cases hp : (valS st.1 letter).isSome = true
  · rw [if_pos hp]
    have base : ∀ (s : SS × SS), ∀ b ∈ (signs (textOf tx R letter)).zipIdx, (V tx R s ∧ (valS s.1 letter).isSome = true) → (V tx R (stepS tx letter s b) ∧ (valS (stepS tx letter s b).1 letter).isSome = true) := by
      rintro s b hb ⟨hv, hs⟩
      obtain ⟨c, e, hq⟩ := zip_sign hb
      rw [e]
      exact ⟨(step_V T hv hl hs hq).1, has_step hs⟩
    refine ⟨(fold_keep base ⟨v, hp⟩).1, ?_, ?_⟩
    · intro l k h
      have := fold_keep (P := fun s => (V tx R s ∧ (valS s.1 letter).isSome = true) ∧ HasL s l k) (f := stepS tx letter) (l := (signs (textOf tx R letter)).zipIdx) (s := st) (fun s b hb hs => by
        refine ⟨base s b hb hs.1, ?_⟩
        obtain ⟨c, e, hq⟩ := zip_sign hb
        rw [e]
        exact (step_V T hs.1.1 hl hs.1.2 hq).2.1 l k hs.2) ⟨⟨v, hp⟩, h⟩
      exact this.2
    · intro kk q c hk hq hs
      have := fold_hit (P := fun s => (V tx R s ∧ (valS s.1 letter).isSome = true) ∧ HasL s letter kk) (Q := fun s => HasL s ⟨#[low c]⟩ (3 * kk + q + 1)) (f := stepS tx letter) (sign_zip hq) (fun s b hb hs => by
        refine ⟨base s b hb hs.1, ?_⟩
        obtain ⟨c, e, hq⟩ := zip_sign hb
        rw [e]
        exact (step_V T hs.1.1 hl hs.1.2 hq).2.1 letter kk hs.2) (fun s b hb hs hQ => by
        obtain ⟨c', e, hq'⟩ := zip_sign hb
        rw [e]
        exact (step_V T hs.1.1 hl hs.1.2 hq').2.1 _ _ hQ) (fun s hs' => (step_V T hs'.1.1 hl hs'.1.2 hq).2.2 kk hs'.2 hs) st ⟨⟨v, hp⟩, hk⟩
      exact this
  · rw [if_neg hp]
    exact ⟨v, fun _ _ h => h, fun kk q c hk _ _ => absurd (has_some hk) hp⟩
theorem round_V (T : TxOk tx R) (v : V tx R st) :
    V tx R (stepR tx R st) ∧ (∀ l k, HasL st l k → HasL (stepR tx R st) l k) ∧ (∀ letter ∈ letters, ∀ kk q c, HasL st letter kk → (textOf tx R letter).cps.toList[q]? = some c → spk (gT tx) c = true → HasL (stepR tx R st) ⟨#[low c]⟩ (3 * kk + q + 1)) := by
  unfold stepR
  have base : ∀ (s : SS × SS), ∀ b ∈ letters, V tx R s → V tx R (stepL tx R s b) := fun s b hb hv => (letter_V T hv hb).1
  refine ⟨fold_keep base v, ?_, ?_⟩
  · intro l k h
    exact (fold_keep (P := fun s => V tx R s ∧ HasL s l k) (fun s b hb hs => ⟨base s b hb hs.1, (letter_V T hs.1 hb).2.1 l k hs.2⟩) ⟨v, h⟩).2
  · intro letter hl kk q c hk hq hs
    exact fold_hit (P := fun s => V tx R s ∧ HasL s letter kk) (Q := fun s => HasL s ⟨#[low c]⟩ (3 * kk + q + 1)) hl (fun s b hb hs => ⟨base s b hb hs.1, (letter_V T hs.1 hb).2.1 _ _ hs.2⟩) (fun s b hb hs hQ => (letter_V T hs.1 hb).2.1 _ _ hQ)
      (fun s hs' => (letter_V T hs'.1 hl).2.2 kk q c hs'.2 hq hs) st ⟨v, hk⟩
theorem V_zero : V tx R (rounds tx R 0) := by
  have h0 : ∀ k, valS (rounds tx R 0).1 k = if Str.ofString "" = k then some (Str.ofString "") else none := by
    intro k
    show valS [(Str.ofString "", Str.ofString "")] k = _
    rw [valS_cons]; rfl
  refine ⟨by rw [h0, if_pos rfl], ?_, ?_, by show ([Str.ofString ""] : List Str).Nodup; simp⟩
  · intro z w h
    rw [h0, if_neg (Ne.symm one_ne_nil)] at h
    cases h
  · intro k h
    rw [h0] at h
    by_cases e : Str.ofString "" = k
    · exact .inl e.symm
    · rw [if_neg e] at h; cases h
theorem V_rounds (T : TxOk tx R) : ∀ i, V tx R (rounds tx R i)
  | 0 => V_zero
  | i + 1 => (round_V T (V_rounds T i)).1
theorem V.root0 (v : V tx R st) : HasL st (Str.ofString "") 0 := by
  refine ⟨_, v.nil, by decide +kernel, ?_⟩
  intro d hd
  have : (Str.ofString "").cps.toList = [] := by decide +kernel
  rw [this] at hd
  exact absurd hd List.not_mem_nil
theorem nil_letter : Str.ofString "" ∈ letters := by
  rw [letters_eq]; exact List.mem_cons_self
theorem round_has (T : TxOk tx R) {e : Ent} (D : DoneE (gT tx) R e) : ∀ (i j : Nat) (p : Nat × Nat), j < i → e[j]? = some p → HasL (rounds tx R i) ⟨#[low p.1]⟩ p.2
  | 0, j, _, h, _ => absurd h (Nat.not_lt_zero _)
  | i + 1, j, p, h, hp => by
    obtain ⟨_, hmono, hhit⟩ := round_V T (V_rounds T i)
    have hs := (D.ways p (List.mem_of_getElem? hp)).spk
    rcases D.from' j p hp with ⟨q, h1, h2⟩ | ⟨j', r, q, h1, h2, h3, h4⟩
    · have := hhit _ nil_letter 0 q p.1 (V_rounds T i).root0 (by rw [text_root]; exact h1) hs
      rw [h2]
      rw [show 3 * 0 + q + 1 = q + 1 by omega] at this
      exact this
    · have ih := round_has T D i j' r (by omega) h2
      have hr := (D.ways r (List.mem_of_getElem? h2)).spk
      obtain ⟨g1, g2⟩ := T.lows hr
      have := hhit _ (letter_of g1 g2) r.2 q p.1 ih (by rw [text_one]; exact h3) hs
      rw [h4]; exact this
end

/-- what the rounds end with: each thing reached has its least way and the sign that ends it; nothing else has one -/
structure EndE (tx : SS) (R : Str) (e : Ent) (st : SS × SS) : Prop where
  v : V tx R st
  d : DoneE (gT tx) R e
  six : e.length ≤ 6
  own : ∀ p ∈ e, ∃ w, valS st.1 ⟨#[low p.1]⟩ = some w ∧ keyS w = p.2 ∧ DigL w.cps.toList ∧ valS st.2 ⟨#[low p.1]⟩ = some ⟨#[p.1]⟩
  only : ∀ z w, valS st.1 ⟨#[z]⟩ = some w → ∃ p ∈ e, low p.1 = z ∧ keyS w = p.2
theorem low_one {e : Ent} (h : (lowsE e).Nodup) : ∀ {p r : Nat × Nat}, p ∈ e → r ∈ e → low p.1 = low r.1 → p = r := by
  induction e with
  | nil => intro p r hp; exact absurd hp List.not_mem_nil
  | cons x e ih =>
    intro p r hp hr he
    unfold lowsE at h
    rw [List.map_cons, List.nodup_cons] at h
    rcases List.mem_cons.mp hp with e1 | hp1
    · rcases List.mem_cons.mp hr with e2 | hr1
      · rw [e1, e2]
      · exact absurd (List.mem_map.mpr ⟨r, hr1, by rw [← he, e1]⟩) h.1
    · rcases List.mem_cons.mp hr with e2 | hr1
      · exact absurd (List.mem_map.mpr ⟨p, hp1, by rw [he, e2]⟩) h.1
      · exact ih h.2 hp1 hr1 he
theorem end_ent {tx : SS} {R : Str} (T : TxOk tx R) : EndE tx R (entOf (gT tx) R) (rounds tx R 6) := by
  have D := ent_done T.short (fun z hz => T.lows hz)
  have v := V_rounds T 6
  generalize entOf (gT tx) R = e at *
  have h6 : e.length ≤ 6 := ent_six (fun z hz => T.lows hz) D.once fun p hp => (D.ways p hp).spk
  have own : ∀ p ∈ e, ∃ w, valS (rounds tx R 6).1 ⟨#[low p.1]⟩ = some w ∧ keyS w = p.2 ∧ DigL w.cps.toList ∧ valS (rounds tx R 6).2 ⟨#[low p.1]⟩ = some ⟨#[p.1]⟩ := by
    intro p hp
    obtain ⟨j, hj, rfl⟩ := List.getElem_of_mem hp
    obtain ⟨w, h1, h2, h3⟩ := round_has T D 6 j _ (by omega) (List.getElem?_eq_getElem hj)
    obtain ⟨c, g1, g2, _, g4⟩ := v.one _ _ h1
    obtain ⟨r, r1, r2, r3⟩ := D.least g2
    have er := low_one D.once r1 hp (r2.trans g1)
    rw [er] at r3
    have hk : keyS w = (e[j]).2 := by omega
    rw [hk] at g2
    have := Way.one T.short g2 (D.ways _ hp)
    exact ⟨w, h1, hk, h3, by rw [g4, this]⟩
  refine ⟨v, D, h6, own, ?_⟩
  intro z w h
  obtain ⟨c, g1, g2, _, _⟩ := v.one z w h
  obtain ⟨r, r1, r2, _⟩ := D.least g2
  obtain ⟨w', h1, h2, _⟩ := own r r1
  refine ⟨r, r1, r2.trans g1, ?_⟩
  rw [r2, g1, h] at h1
  rw [Option.some.inj h1]; exact h2
end Mine
end

section
open PySem PySem.W PyProof.Rows PySem.Calls PySem.Spec
set_option Elab.async false
set_option maxRecDepth 100000
namespace Mine
def rk (r : Str × Str) : Nat := keyS r.1
theorem mem_rows {W : SS} {r : Str × Str} : r ∈ rowsL W ↔ (r.2, r.1) ∈ W ∧ r.2.length ≠ 0 := by
  unfold rowsL
  rw [List.mem_map]
  constructor
  · rintro ⟨p, hp, rfl⟩
    have := List.mem_filter.mp hp
    exact ⟨this.1, by simpa using this.2⟩
  · rintro ⟨h1, h2⟩
    exact ⟨(r.2, r.1), List.mem_filter.mpr ⟨h1, by simpa using h2⟩, rfl⟩
theorem valS_of_mem : ∀ {W : SS} {k w : Str}, (W.map fun p => p.1).Nodup → (k, w) ∈ W → valS W k = some w
  | [], _, _, _, h => absurd h List.not_mem_nil
  | p :: W, k, w, hn, h => by
    rw [List.map_cons, List.nodup_cons] at hn
    rw [valS_cons]
    rcases List.mem_cons.mp h with e | h
    · rw [← e, if_pos rfl]
    · have : ¬ p.1 = k := fun e => hn.1 (List.mem_map.mpr ⟨(k, w), h, e.symm⟩)
      rw [if_neg this]
      exact valS_of_mem hn.2 h
theorem rows_once {W : SS} (h : (W.map fun p => p.1).Nodup) : (rowsL W).Pairwise fun a b => a.2 ≠ b.2 := by
  unfold rowsL
  rw [List.pairwise_map]
  have h1 : ((W.filter fun p => decide (p.1.length ≠ 0)).map fun p => p.1).Nodup := (List.Sublist.map (fun p : Str × Str => p.1) (List.filter_sublist (l := W))).nodup h
  rw [List.nodup_iff_pairwise_ne, List.pairwise_map] at h1
  exact h1
def rowOf (st : SS × SS) (p : Nat × Nat) : Str × Str := ((valS st.1 ⟨#[low p.1]⟩).getD Str.empty, ⟨#[low p.1]⟩)
section
variable {tx : SS} {R : Str} {e : Ent} {st : SS × SS}
theorem EndE.row (X : EndE tx R e st) {r : Str × Str} (h : r ∈ rowsL st.1) : ∃ p ∈ e, r = rowOf st p ∧ keyS r.1 = p.2 ∧ DigL r.1.cps.toList ∧ valS st.2 r.2 = some ⟨#[p.1]⟩ := by
  obtain ⟨h1, h2⟩ := mem_rows.mp h
  have hv := valS_of_mem X.v.once h1
  rcases X.v.keys r.2 (by rw [hv]; rfl) with e1 | ⟨z, _, _, e1⟩
  · rw [e1] at h2
    exact absurd (by decide +kernel) h2
  · rw [e1] at hv
    obtain ⟨p, hp, g1, g2⟩ := X.only z r.1 hv
    obtain ⟨w, k1, k2, k3, k4⟩ := X.own p hp
    rw [g1, hv] at k1
    have ew := Option.some.inj k1
    refine ⟨p, hp, ?_, g2, by rw [ew]; exact k3, by rw [e1, ← g1]; exact k4⟩
    unfold rowOf
    rw [g1, hv, ← e1]; rfl
theorem EndE.rkOf (X : EndE tx R e st) {p : Nat × Nat} (hp : p ∈ e) : rk (rowOf st p) = p.2 ∧ rowOf st p ∈ rowsL st.1 := by
  obtain ⟨w, k1, k2, k3, k4⟩ := X.own p hp
  have : rowOf st p = (w, ⟨#[low p.1]⟩) := by unfold rowOf; rw [k1]; rfl
  rw [this]
  refine ⟨k2, mem_rows.mpr ⟨valS_mem k1, ?_⟩⟩
  simp [PySem.Str.length]
theorem EndE.mem (X : EndE tx R e st) (r : Str × Str) : r ∈ rowsL st.1 ↔ r ∈ e.map (rowOf st) := by
  constructor
  · intro h
    obtain ⟨p, hp, e1, _⟩ := X.row h
    exact List.mem_map.mpr ⟨p, hp, e1.symm⟩
  · intro h
    obtain ⟨p, hp, rfl⟩ := List.mem_map.mp h
    exact (X.rkOf hp).2
theorem EndE.rise (X : EndE tx R e st) : (e.map (rowOf st)).Pairwise fun a b => rk a < rk b := by
  rw [List.pairwise_map]
  exact List.Pairwise.imp_of_mem (fun ha hb h => by rw [(X.rkOf ha).1, (X.rkOf hb).1]; exact h) X.d.rise
theorem ent_key (h : e.Pairwise fun a b => a.2 < b.2) : ∀ {p r : Nat × Nat}, p ∈ e → r ∈ e → p.2 = r.2 → p = r := by
  induction e with
  | nil => intro p r hp; exact absurd hp List.not_mem_nil
  | cons x e ih =>
    intro p r hp hr he
    rw [List.pairwise_cons] at h
    rcases List.mem_cons.mp hp with e1 | hp1
    · rcases List.mem_cons.mp hr with e2 | hr1
      · rw [e1, e2]
      · have := h.1 r hr1; rw [e1] at he; omega
    · rcases List.mem_cons.mp hr with e2 | hr1
      · have := h.1 p hp1; rw [e2] at he; omega
      · exact ih h.2 hp1 hr1 he
theorem EndE.rkne (X : EndE tx R e st) : (rowsL st.1).Pairwise fun a b => rk a ≠ rk b := by
  refine List.Pairwise.imp_of_mem (fun {a b} ha hb hne he => ?_) (rows_once X.v.once)
  obtain ⟨p, hp, e1, e2, _⟩ := X.row ha
  obtain ⟨r, hr, e3, e4, _⟩ := X.row hb
  have : p = r := ent_key X.d.rise hp hr (by rw [← e2, ← e4]; exact he)
  exact hne (by rw [e1, e3, this])
theorem EndE.len (X : EndE tx R e st) : (rowsL st.1).length ≤ 6 := by
  have h1 : ((rowsL st.1).map rk).Nodup := by
    rw [List.nodup_iff_pairwise_ne, List.pairwise_map]; exact X.rkne
  have h2 := nodup_le (y := e.map fun p => p.2) h1 (by
    intro z hz
    obtain ⟨r, hr, rfl⟩ := List.mem_map.mp hz
    obtain ⟨p, hp, _, e2, _⟩ := X.row hr
    exact List.mem_map.mpr ⟨p, hp, e2.symm⟩)
  rw [List.length_map, List.length_map] at h2
  have := X.six
  omega
theorem getD_of {α : Type} {l : List α} {i : Nat} {d : α} (h : i < l.length) : l.getD i d = l[i] := by
  rw [List.getD_eq_getElem?_getD, List.getElem?_eq_getElem h]; rfl
theorem EndE.sort (X : EndE tx R e st) (h2 : 2 ≤ (rowsL st.1).length) : okT (rowsL st.1).length (ltAt (rowsL st.1)) (kas_sort (rowsL st.1).length) = true ∧ SortedBy (rowsL st.1).length (fun i => rk ((rowsL st.1).getD i (Str.empty, Str.empty))) (runT (ltAt (rowsL st.1)) (kas_sort (rowsL st.1).length)).toList := by
  have inj : ∀ i j, i < (rowsL st.1).length → j < (rowsL st.1).length → rk ((rowsL st.1).getD i (Str.empty, Str.empty)) = rk ((rowsL st.1).getD j (Str.empty, Str.empty)) → i = j := by
    intro i j hi hj he
    rw [getD_of hi, getD_of hj] at he
    have hp := List.pairwise_iff_getElem.mp X.rkne
    rcases Nat.lt_trichotomy i j with h | h | h
    · exact absurd he (hp i j hi hj h)
    · exact h
    · exact absurd he.symm (hp j i hj hi h)
  refine sort_key h2 X.len inj ?_
  intro i j hi hj
  unfold ltAt lt3
  obtain ⟨_, _, _, _, d1, _⟩ := X.row (r := (rowsL st.1).getD i (Str.empty, Str.empty)) (by rw [getD_of hi]; exact List.getElem_mem hi)
  obtain ⟨_, _, _, _, d2, _⟩ := X.row (r := (rowsL st.1).getD j (Str.empty, Str.empty)) (by rw [getD_of hj]; exact List.getElem_mem hj)
  by_cases q : ((rowsL st.1).getD i (Str.empty, Str.empty)).1 = ((rowsL st.1).getD j (Str.empty, Str.empty)).1
  · have hk : rk ((rowsL st.1).getD i (Str.empty, Str.empty)) = rk ((rowsL st.1).getD j (Str.empty, Str.empty)) := by unfold rk; rw [q]
    have eij := inj i j hi hj hk
    subst eij
    rw [if_pos rfl, if_pos rfl]
    simp
  · rw [if_neg q]
    exact ltP_key d1 d2
theorem EndE.order (X : EndE tx R e st) : orderW (rowsL st.1) = e.map (rowOf st) := by
  refine rise_eq (f := rk) ?_ X.rise fun z => ?_
  · unfold orderW
    split
    · rename_i h
      match hl : rowsL st.1, h with
      | [], _ => exact List.Pairwise.nil
      | [a], _ => simp
    · rename_i h
      obtain ⟨_, hs⟩ := X.sort (by omega)
      rw [List.pairwise_map]
      exact hs.rise
  · rw [← X.mem z]
    refine ⟨fun h => ?_, fun h => ?_⟩
    · exact order_mem (fun h2 => (X.sort h2).2.low) z h
    · unfold orderW
      split
      · exact h
      · rename_i h2
        obtain ⟨_, hs⟩ := X.sort (by omega)
        obtain ⟨i, hi, rfl⟩ := List.getElem_of_mem h
        have := nodup_all (y := List.range (rowsL st.1).length) hs.nodup (fun z hz => List.mem_range.mpr (hs.low z hz)) (by rw [List.length_range, hs.len]; exact Nat.le_refl _) i (List.mem_range.mpr hi)
        exact List.mem_map.mpr ⟨i, this, getD_of hi⟩
end
theorem left_ent {tx : SS} {R : Str} (T : TxOk tx R) : leftP tx R = (entOf (gT tx) R).map fun p => (⟨#[p.1]⟩, txtX (gT tx) p.1) := by
  have X := end_ent T
  unfold leftP
  rw [X.order, List.map_map]
  refine List.map_congr_left fun p hp => ?_
  obtain ⟨w, _, _, _, k4⟩ := X.own p hp
  show ((valS (rounds tx R 6).2 ⟨#[low p.1]⟩).getD Str.empty, (valS tx ⟨#[low p.1]⟩).getD Str.empty) = _
  rw [k4]; rfl
end Mine
end

section
open PySem PySem.W PyProof.Rows PySem.Calls PySem.Spec
set_option Elab.async false
set_option maxRecDepth 100000
namespace Mine
theorem okC_of {a : Nat} (h1 : 32 ≤ a) (h2 : a < 127) : okC a := by
  have : ∀ k : Fin 127, 32 ≤ k.val → k.val < 256 ∧ 32 ≤ k.val &&& 127 ∧ k.val &&& 127 < 127 := by decide +kernel
  exact this ⟨a, h2⟩ h1
theorem strOk_small {x : Str} (h : ∀ c ∈ x.cps.toList, c < 127) : PyData.strOk x = true := by
  unfold PyData.strOk
  rw [Array.all_eq_true']
  intro c hc
  have := h c (by simpa using hc)
  simp; omega
theorem low_alpha {c : Nat} (h1 : 97 ≤ low c) (h2 : low c ≤ 102) : (isUp c || isLo c) = true := by
  unfold low at h1 h2
  unfold isUp isLo at *
  split at h1
  · rename_i h; rw [h]; rfl
  · rename_i h
    rw [if_neg h] at h2
    simp only [Bool.or_eq_true, Bool.and_eq_true, decide_eq_true_eq]
    right; omega
theorem alpha_name {c : Nat} (h : (isUp c || isLo c) = true) : 32 ≤ c ∧ c < 127 := by
  unfold isUp isLo at h
  simp only [Bool.or_eq_true, Bool.and_eq_true, decide_eq_true_eq] at h
  omega
section
variable {tx : SS} {R : Str} {tab : Tab} {Rch : Nat → Prop}
theorem turn_plain (T : TxOk tx R) (N : Net (gT tx) tab Rch) (hR : ∀ c ∈ R.cps.toList, Rch c) (G : Good tab) (hs : ∀ c ∈ R.cps, 32 ≤ c ∧ c < 127) : TurnOk tx tab R := by
  have X := end_ent T
  have hc := (collect_ent N hR).1
  have hlen := X.six
  refine ⟨G, N.flat, hs, ?_, ?_, ?_, ?_, ?_, ?_, X.len, ?_, ?_, ?_⟩
  · rw [hc, left_ent T]
    unfold pairsT outT
    rw [List.map_map]; rfl
  · rw [hc]
    intro p hp
    obtain ⟨r, hr, rfl⟩ := List.mem_map.mp hp
    have hsp := (X.d.ways r hr).spk
    have hn := alpha_name (N.spks _ hsp)
    obtain ⟨a, b, e2, h1, h2, h3, h4⟩ := N.two hsp
    refine ⟨strOk_small fun c hc => ?_, strOk_small fun c hc => ?_⟩
    · have : c = r.1 := by simpa using hc
      omega
    · dsimp only at hc
      rw [e2] at hc
      have : c = a ∨ c = b := by simpa using hc
      omega
  · rw [hc]
    unfold outT
    rw [List.length_map]
    omega
  · intro x hx hl
    rcases letter_is hx with rfl | ⟨z, h1, h2, rfl⟩
    · exact absurd (by decide +kernel) hl
    · exact T.has z h1 h2
  · intro x hx
    refine ⟨?_, fun c hc => T.low127 hx c (by simpa using hc)⟩
    rcases letter_is hx with rfl | ⟨z, h1, h2, rfl⟩
    · rw [text_root]; exact T.rlen
    · rw [text_one]
      obtain ⟨y, hy⟩ := Option.isSome_iff_exists.mp (T.has z h1 h2)
      obtain ⟨a, b, rfl, _⟩ := T.txt _ _ hy
      rw [hy]
      show 2 ≤ 3
      decide
  · intro r hr
    obtain ⟨p, hp, e1, _, _, e4⟩ := X.row hr
    refine ⟨?_, by rw [e4]; rfl⟩
    rw [e1]
    exact (X.d.ways p hp).spk
  · intro p hp
    have hv := valS_of_mem X.v.once (k := p.1) (w := p.2) hp
    refine ⟨?_, ?_⟩
    · rcases X.v.keys p.1 (by rw [hv]; rfl) with e | ⟨z, _, _, e⟩
      · rw [e]; decide +kernel
      · rw [e]; exact Nat.le_refl 1
    · have hb := bd_rounds (tx := tx) (roots := R) (fun x hx => by
        rcases letter_is hx with rfl | ⟨z, h1, h2, rfl⟩
        · rw [text_root]; exact T.rlen
        · rw [text_one]
          obtain ⟨y, hy⟩ := Option.isSome_iff_exists.mp (T.has z h1 h2)
          obtain ⟨a, b, rfl, _⟩ := T.txt _ _ hy
          rw [hy]
          show 2 ≤ 3
          decide) 6
      have := hb.ways _ _ hv
      omega
  · intro h2
    obtain ⟨h3, h4⟩ := X.sort h2
    exact ⟨h3, h4.low⟩
  · rw [X.order, List.length_map]; exact hlen
end
/-- the table of the texts, seen as a dict and as rows -/
theorem look_zip : ∀ (ns : List Nat) (k c : Nat), k + ns.length ≤ 6 → look ((ns.zipIdx k).map fun p => (97 + p.2, text2 p.1)) c = valS ((ns.zipIdx k).map fun p => (⟨#[97 + p.2]⟩, text2 p.1)) ⟨#[low c]⟩
  | [], _, _, _ => rfl
  | n :: ns, k, c, h => by
    rw [List.length_cons] at h
    rw [List.zipIdx_cons, List.map_cons, List.map_cons, valS_cons]
    have hl : low (97 + k) = 97 + k := by
      unfold low isUp
      rw [if_neg]
      simp only [Bool.and_eq_true, decide_eq_true_eq]
      omega
    show (if low (97 + k) = low c then _ else _) = _
    rw [hl]
    dsimp only
    by_cases e : 97 + k = low c
    · rw [if_pos e, if_pos (by rw [e])]
    · rw [if_neg e, if_neg (fun q => e (one_inj q))]
      exact look_zip ns (k + 1) c (by omega)
theorem valS_keys : ∀ (ns : List Nat) (k : Nat) (x : Str), (valS ((ns.zipIdx k).map fun p => ((⟨#[97 + p.2]⟩ : Str), text2 p.1)) x).isSome = true → ∃ z, 97 + k ≤ z ∧ z < 97 + k + ns.length ∧ x = ⟨#[z]⟩
  | [], _, _, h => by cases h
  | n :: ns, k, x, h => by
    rw [List.zipIdx_cons, List.map_cons, valS_cons] at h
    dsimp only at h
    by_cases e : (⟨#[97 + k]⟩ : Str) = x
    · exact ⟨97 + k, Nat.le_refl _, by rw [List.length_cons]; omega, e.symm⟩
    · rw [if_neg e] at h
      obtain ⟨z, h1, h2, h3⟩ := valS_keys ns (k + 1) x h
      exact ⟨z, by omega, by rw [List.length_cons]; omega, h3⟩
theorem valS_two {ns : List Nat} {k x : Str} (h : valS (textsN ns) k = some x) : ∃ n, x = text2 n := by
  have := valS_mem h
  unfold textsN at this
  obtain ⟨p, _, e⟩ := List.mem_map.mp this
  have e2 := congrArg (fun q : Str × Str => q.2) e
  exact ⟨p.1, e2.symm⟩
theorem tx_ok {ns : List Nat} (h : ns.length = 6) {R : Str} (hl : R.length ≤ 3) (hr : ∀ c ∈ R.cps.toList, c < 127) : TxOk (textsN ns) R := by
  refine ⟨?_, ?_, ?_, hl, hr⟩
  · intro z h1 h2
    have := textsN_val (ns := ns) (i := z - 97) (by omega)
    rw [show 97 + (z - 97) = z by omega] at this
    unfold gT
    rw [this]; rfl
  · intro k hk
    obtain ⟨z, h1, h2, h3⟩ := valS_keys ns 0 k hk
    exact ⟨z, by omega, by omega, h3⟩
  · intro z x hx
    obtain ⟨n, rfl⟩ := valS_two hx
    exact ⟨_, _, rfl, (sgn_all _).1, (sgn_all _).2, (sgn_all _).1, (sgn_all _).2⟩
def isSgn (c : Nat) : Prop := ∃ m, c = sgn m
theorem gT_text {ns : List Nat} {c : Nat} (h : spk (gT (textsN ns)) c = true) : ∃ n, txtX (gT (textsN ns)) c = text2 n := by
  unfold spk at h
  unfold txtX
  obtain ⟨x, hx⟩ := Option.isSome_iff_exists.mp h
  obtain ⟨n, rfl⟩ := valS_two hx
  exact ⟨n, by rw [hx]; rfl⟩
theorem text2_sgn {n d : Nat} (h : d ∈ (text2 n).cps.toList) : isSgn d := by
  have : d = sgn n ∨ d = sgn (n / 16) := by simpa [text2] using h
  rcases this with e | e
  · exact ⟨_, e⟩
  · exact ⟨_, e⟩
theorem spk_alpha {ns : List Nat} (h6 : ns.length = 6) {c : Nat} (h : spk (gT (textsN ns)) c = true) : (isUp c || isLo c) = true := by
  have T := tx_ok h6 (R := Str.empty) (by decide) (by intro c hc; simp [Str.empty] at hc)
  obtain ⟨h1, h2⟩ := T.lows h
  exact low_alpha h1 h2
theorem tab0_once {ns : List Nat} (h : ns.length = 6) : ((tab0 ns).map fun p => low p.1).Nodup := by
  match ns, h with
  | [a, b, c, d, e, f], _ =>
    show ([low 55, low (97 + 0), low (97 + 1), low (97 + 2), low (97 + 3), low (97 + 4), low (97 + 5)] : List Nat).Nodup
    decide +kernel
theorem net0 {ns : List Nat} (h6 : ns.length = 6) : Net (gT (textsN ns)) (tab0 ns) isSgn := by
  have T := tx_ok h6 (R := Str.empty) (by decide) (by intro c hc; simp [Str.empty] at hc)
  refine ⟨T.txt, fun c h => spk_alpha h6 h, ?_, ?_, tab0_once h6, ?_⟩
  · rintro c ⟨m, rfl⟩ hal
    show (if low 55 = low (sgn m) then _ else look (tabN ns) (sgn m)) = valS (textsN ns) ⟨#[low (sgn m)]⟩
    have hne : ¬ low 55 = low (sgn m) := by
      have : low 55 = 55 := by decide
      rcases sgn_letter m hal with h | h <;> omega
    rw [if_neg hne]
    exact look_zip ns 0 (sgn m) (by omega)
  · rintro c _ hs d hd
    obtain ⟨n, hn⟩ := gT_text hs
    rw [hn] at hd
    exact text2_sgn hd
  · intro p hp
    rcases List.mem_cons.mp hp with rfl | hp
    · decide
    · obtain ⟨_, n, h2⟩ := tabN_mem hp
      rw [h2]
      show sgn n < 128
      have := (sgn_all n).2
      omega
theorem good0 {ns : List Nat} (h6 : ns.length = 6) : Good (tab0 ns) := by
  refine ⟨?_, fun p hp => (tab0_ok h6 p hp).1, ?_, tab0_once h6⟩
  · show (tabN ns).length + 1 ≤ 500
    rw [tabN_length, h6]; decide
  · intro p hp
    rcases List.mem_cons.mp hp with rfl | hp
    · exact ⟨97, 98, rfl, okC_of (by decide) (by decide), okC_of (by decide) (by decide)⟩
    · obtain ⟨_, n, h2⟩ := tabN_mem hp
      exact ⟨_, _, h2, okC_of (sgn_all _).1 (sgn_all _).2, okC_of (sgn_all _).1 (sgn_all _).2⟩
theorem text3_mem {n c : Nat} (h : c ∈ (text3 n).cps.toList) : isSgn c := by
  have : c = sgn n ∨ c = sgn (n / 16) ∨ c = sgn (n / 256) := by simpa [text3] using h
  rcases this with e | e | e
  · exact ⟨_, e⟩
  · exact ⟨_, e⟩
  · exact ⟨_, e⟩
theorem rev2_mem {n c : Nat} (h : c ∈ (rev2 n).cps.toList) : isSgn c ∧ c ∈ (text3 n).cps.toList := by
  have : c = sgn (n / 256) ∨ c = sgn (n / 16) := by simpa [rev2] using h
  rcases this with e | e
  · exact ⟨⟨_, e⟩, by simp [text3, e]⟩
  · exact ⟨⟨_, e⟩, by simp [text3, e]⟩
theorem isSgn.lt {c : Nat} (h : isSgn c) : 32 ≤ c ∧ c < 127 := by
  obtain ⟨m, rfl⟩ := h
  exact sgn_all m
/-- the table that a gathering leaves, gathered from again -/
theorem net1 {ns : List Nat} (h6 : ns.length = 6) {R : Str} {e : Ent} (D : DoneE (gT (textsN ns)) R e) : Net (gT (textsN ns)) (outT (gT (textsN ns)) e) (fun c => spk (gT (textsN ns)) c = true → low c ∈ lowsE e) := by
  have T := tx_ok h6 (R := Str.empty) (by decide) (by intro c hc; simp [Str.empty] at hc)
  have hmap : ((outT (gT (textsN ns)) e).map fun p => low p.1) = lowsE e := by unfold outT lowsE; rw [List.map_map]; rfl
  refine ⟨T.txt, fun c h => spk_alpha h6 h, ?_, ?_, by rw [hmap]; exact D.once, ?_⟩
  · intro c hc _
    by_cases m : low c ∈ lowsE e
    · obtain ⟨p, hp, he⟩ := List.mem_map.mp m
      have hs : spk (gT (textsN ns)) c = true := by rw [← spk_low he]; exact (D.ways p hp).spk
      have : ∀ {f : Ent}, low c ∈ lowsE f → look (outT (gT (textsN ns)) f) c = some (txtX (gT (textsN ns)) c) := by
        intro f
        induction f with
        | nil => intro h; exact absurd h List.not_mem_nil
        | cons q f ih =>
          intro h
          show (if low q.1 = low c then _ else _) = _
          by_cases eq : low q.1 = low c
          · rw [if_pos eq]; unfold txtX; rw [eq]
          · rw [if_neg eq]
            refine ih ?_
            rcases List.mem_cons.mp h with h | h
            · exact absurd h.symm eq
            · exact h
      rw [this m]
      unfold spk at hs
      unfold txtX
      obtain ⟨x, hx⟩ := Option.isSome_iff_exists.mp hs
      rw [hx]; rfl
    · have hn : ¬ spk (gT (textsN ns)) c = true := fun h => m (hc h)
      rw [look_none]
      · unfold spk at hn
        cases hx : gT (textsN ns) (low c) with
        | none => rfl
        | some x => rw [hx] at hn; exact absurd rfl hn
      · intro p hp he
        obtain ⟨q, hq, rfl⟩ := List.mem_map.mp hp
        exact m (List.mem_map.mpr ⟨q, hq, he⟩)
  · intro c hc hs d hd hsd
    obtain ⟨p, hp, he⟩ := List.mem_map.mp (hc hs)
    obtain ⟨q, hq, hqd⟩ := List.getElem_of_mem hd
    have hqd' : (txtX (gT (textsN ns)) p.1).cps.toList[q]? = some d := by
      rw [txt_low he, List.getElem?_eq_getElem hq, hqd]
    obtain ⟨r, hr, h1, _⟩ := D.next p hp q d hqd' hsd
    exact List.mem_map.mpr ⟨r, hr, h1⟩
  · intro p hp
    obtain ⟨q, hq, rfl⟩ := List.mem_map.mp hp
    obtain ⟨n, hn⟩ := gT_text (D.ways q hq).spk
    dsimp only
    rw [hn]
    show sgn n < 128
    have := (sgn_all n).2
    omega
theorem good1 {ns : List Nat} (h6 : ns.length = 6) {R : Str} {e : Ent} (D : DoneE (gT (textsN ns)) R e) (hl : e.length ≤ 6) : Good (outT (gT (textsN ns)) e) := by
  have hmap : ((outT (gT (textsN ns)) e).map fun p => low p.1) = lowsE e := by unfold outT lowsE; rw [List.map_map]; rfl
  refine ⟨by unfold outT; rw [List.length_map]; omega, ?_, ?_, by rw [hmap]; exact D.once⟩
  · intro p hp
    obtain ⟨q, hq, rfl⟩ := List.mem_map.mp hp
    exact alpha_name (spk_alpha h6 (D.ways q hq).spk)
  · intro p hp
    obtain ⟨q, hq, rfl⟩ := List.mem_map.mp hp
    obtain ⟨n, hn⟩ := gT_text (D.ways q hq).spk
    exact ⟨_, _, hn, okC_of (sgn_all _).1 (sgn_all _).2, okC_of (sgn_all _).1 (sgn_all _).2⟩
theorem law_plain {ns : List Nat} (h : ns.length = 6) (n i : Nat) (hi : i < 2) : TurnOk (textsN ns) (tabAt ns n i) (srcAt n i) := by
  have T0 : TxOk (textsN ns) (text3 n) := tx_ok h (by show 3 ≤ 3; decide) fun c hc => (text3_mem hc).lt.2
  match i, hi with
  | 0, _ => exact turn_plain T0 (net0 h) (fun c hc => text3_mem hc) (good0 h) fun c hc => (text3_mem (n := n) (by have hc' : c ∈ (text3 n).cps := hc; simpa using hc')).lt
  | 1, _ =>
    have X := end_ent T0
    have T1 : TxOk (textsN ns) (rev2 n) := tx_ok h (by show 2 ≤ 3; decide) fun c hc => (rev2_mem hc).1.lt.2
    show TurnOk (textsN ns) (collectP (tab0 ns) (text3 n)) (rev2 n)
    rw [(collect_ent (net0 h) fun c hc => text3_mem hc).1]
    refine turn_plain T1 (net1 h X.d) (fun c hc hs => ?_) (good1 h X.d X.six) fun c hc => (rev2_mem (n := n) (by have hc' : c ∈ (rev2 n).cps := hc; simpa using hc')).1.lt
    obtain ⟨q, hq, hqd⟩ := List.getElem_of_mem (rev2_mem hc).2
    obtain ⟨r, hr, h1, _⟩ := X.d.root q c (by rw [List.getElem?_eq_getElem hq, hqd]) hs
    exact List.mem_map.mpr ⟨r, hr, h1⟩
end Mine
end

end

section
open PySem PySem.W PyProof.Rows PySem.Calls PySem.Spec
set_option Elab.async false
set_option maxRecDepth 100000
namespace Mine
local macro_rules | `(tactic| walk_at "eval ListComp") => `(tactic| (k_here; (with_reducible show wpAny _ _ (eval (Expr.ListComp _ [⟨Expr.Name _ _, Expr.Constant _ _ _, _, _⟩] _ _) _) _ _ _); k_dflt (refine ListComp_str (F₀ := by k_asm) (by rfl) (by decide) (by rfl) (by decide) (by rfl) ?_)))
local macro_rules | `(tactic| k_mem) => `(tactic| first | exact List.mem_cons_self | (refine' List.mem_cons_of_mem _ ?_; k_mem) | (refine' List.mem_append_right _ ?_; k_mem))
local macro_rules | `(tactic| walk_at "eval DictComp") => `(tactic| (k_here; k_dflt (refine DictComp_E (F₀ := by k_asm) (by rfl) (by decide) (by rfl) (by decide) (by rfl) (by rfl) (by decide) ?_)))
set_option hygiene false in
local macro_rules | `(tactic| walk_at "call type:enumerate") => `(tactic| (k_here; k_dflt (refine call_enumerate_str ?_; intro h4 he4 hit4 hsz4 hk4)))
local macro_rules | `(tactic| walk_at "call ref") => `(tactic| (k_here; skip))
local macro_rules | `(tactic| walk_at "exec For Name Tuple cons nil") => `(tactic| (k_here; (with_reducible rename Fr _ _ _ _ => kF); k_dflt (refine for_turnsF kF ?_)))
set_option hygiene false in
local macro_rules | `(tactic| walk_at "mine:chg") => `(tactic| (
  (case k1 => k_asm); (case k2 => k_asm); (case k3 => k_asm); (case k4 => k_asm); (case k5 => k_asm);
  (case k6 => first | exact rfl | assumption);
  (case kd => ktr_room); (case ku => ktr_units)))
set_option hygiene false in
local macro_rules | `(tactic| walk_at "mine:sides") => `(tactic| (
  (case k1 => k_asm); (case k2 => k_asm); (case k3 => k_asm); (case k4 => k_asm); (case k5 => k_asm);
  (case k6 => first | exact rfl | assumption);
  (case k8 => ktr_room); (case k9 => ktr_units)))
set_option hygiene false in
local macro_rules | `(tactic| walk_at "mine:after") => `(tactic| (
  intro r9 h9 tk9 ho9 F9 N9; (first | (obtain ⟨n9, t9, e9⟩ := ho9; subst e9) | subst ho9 | skip); (try dsimp only); (try k_fold)))
local macro_rules | `(tactic| walk_at "call ref") => `(tactic| (k_here; k_dflt (refine' Pure.use (text2_int _ _ _) ?k1 ?k2 ?k3 ?k4 ?k5 ?k6 ?k7 ?k8 ?k9 ?_; walk_at "mine:sides"; (case k7 => first | exact Int.add_nonneg (by decide) (Int.natCast_nonneg _) | exact Int.add_nonneg (getD_nn (by decide) _) (Int.natCast_nonneg _))); walk_at "mine:after"))
local macro_rules | `(tactic| walk_at "call ref") => `(tactic| (k_here; k_dflt (refine' Pure.use (text3_int _ _ _) ?k1 ?k2 ?k3 ?k4 ?k5 ?k6 ?k7 ?k8 ?k9 ?_; walk_at "mine:sides"; (case k7 => first | exact Int.add_nonneg (by decide) (Int.natCast_nonneg _) | exact Int.add_nonneg (getD_nn (by decide) _) (Int.natCast_nonneg _))); walk_at "mine:after"))
set_option hygiene false in
local macro_rules | `(tactic| walk_at "call builtin:sum") => `(tactic| (k_here; (with_reducible show wpAny _ _ (call (Value.builtin "sum") [Value.ref _]) _ _ _); k_dflt (refine' sum_nat ?hh ?F ?N ?hm ?hc ?hd ?hi ?hp ?_; (case hh => rfl); (case F => k_asm); (case N => k_asm); (case hm => k_mem); (case hc => rfl); (case hd => rfl); (case hi => first | exact IntsAre.pick hI0 _ _ _ | exact hI0); (case hp => first | exact pick_nn hI1 _ _ _ | exact hI1)); intro z9 h9 tk9 t9 F9 N9))
set_option maxHeartbeats 2000000 in
theorem law_holds : PySem.Challenge.rw_il0203_01.Holds := by
  refine hd ?_
  k_go0
  all_goals try k_fold
  k_steps
  (rename Fr _ _ _ _ => F9); (rename News _ _ _ _ => N9); (rename IntsAre _ (List.map _ _) => hI0)
  obtain ⟨NS, hI2, hI1⟩ : ∃ NS, IntsAre _ NS ∧ ∀ x ∈ NS, 0 ≤ x := ⟨_, hI0, fmod_nn _ _ (by decide)⟩
  clear hI0
  have hI0 := hI2
  clear hI2
  refine SrcE.enum textsR rfl F9 N9 (Top.nolimit (by k_asm)) (by decide +kernel) (by decide +kernel) he4 hit4 hk4 (fun i kvs h => by obtain ⟨ns, h1, h2⟩ := h; rw [h2.length, textsN_length, h1]; exact Nat.le_refl _) ⟨[], rfl, .nil⟩ ?_ ?_
  · clear F9 N9 he4 hit4 hk4
    rintro e it i c kvs hc ⟨ns, hns, hS⟩ t5 u5 oe oi C oC D oD m₂ h5 tk5 E' hC hx hy F5 N5 off offE offI
    obtain ⟨hi, rfl⟩ := sign6 hc
    clear hc
    have hz0 : 0 ≤ (i : Int) := Int.natCast_nonneg _
    have hz6 : (i : Int) < 6 := by omega
    generalize hz : (i : Int) = z at *
    k_steps
    all_goals (
      (rename Fr _ _ _ _ => FE); (rename News _ _ _ _ => NE)
      refine EndD.intro FE NE (fun p hp => by simp only [List.mem_cons] at hp ⊢; simp only [hp, or_true]) ⟨ns ++ [n9], by rw [List.length_append, hns]; rfl, ?_⟩
      have hq := textsN_put hS n9 t9
      rw [hns] at hq
      exact hq)
  · rintro D oD kvs h6 tk6 ⟨ns, hns, hS⟩ hD lD F6 N6 l6
    clear he4 hit4 hk4 F9 N9
    have hns6 : ns.length = 6 := hns
    clear hns
    k_lt l6
    (first | walk1 | (dsimp only; walk1))
    (rename Fr _ _ _ _ => F7); (rename News _ _ _ _ => N7)
    obtain ⟨mm, F8⟩ := Fr.opq F7
    clear F7
    (rename Heap.CodeRec _ _ _ => z1); clear z1
    (try ((rename Dflts _ _ _ _ => z2); clear z2)); (try ((rename Dflts _ _ _ _ _ => z2); clear z2))
    (try ((rename CellsAre _ => z3); clear z3)); (try ((rename CellsAre _ _ _ => z3); clear z3)); (try ((rename CellsAre _ _ _ _ => z3); clear z3))
    (rename IntsAre _ (List.take _ _) => z4)
    k_steps
    (rename Fr _ _ _ _ => F7); (rename News _ _ _ _ => N7)
    rename_i d7 e7 la l7 h7 lb
    (rename Shared => S1)
    refine ⟨_, _, _, rfl, rfl, F7, N7, (by decide +kernel), ?_⟩
    rintro s₂ ⟨gg, rfl⟩
    refine restN_by (n := 6) (fun i ys news' => ∃ tups, news' = tups ++ _ ∧ TabIn tups ys ((tabN ns).take i)) ?_ ?_ _ 0 [] _ rfl ⟨[], rfl, .nil⟩
    · rintro i v ys2 news' I8 oI8 C8 oC8 D8 m8 h8 tk8 E8 hi8 ⟨c8, u8, hc8, rfl⟩ ⟨tups, rfl, hT⟩ hC8 hx8 F8 N8 off8 ne8
      obtain ⟨hi9, rfl⟩ := sign6 hc8
      have hv8 := textsN_val (ns := ns) (i := i) (by omega)
      clear F7 N7
      walk1
      walk1
      walk1
      walk1
      walk1
      walk1
      walk1
      refine item_S (d := D) (o := oD) (l := textsN ns) N8 ?zb hD hS hv8 ?zc
      case zb => exact .tail _ (.tail _ (.tail _ (List.mem_append_right _ (.tail _ (.tail _ (.head _))))))
      intro u9
      k_steps
      (rename Fr _ _ _ _ => F9); (rename News _ _ _ _ => N9); (rename _ ∧ _ ∧ _ ∧ AllLt _ _ => l9)
      refine comp_push F9 N9 ⟨l9.1, l9.2.1, l9.2.2.1⟩ off8 trivial ⟨_ :: tups, rfl, ?_⟩
      rw [List.take_add_one, tabN_at (by omega)]
      exact (hT.sub fun p hp => .tail _ hp).snoc (.head _)
    · rintro ys2 news' ⟨tups, rfl, hT⟩ D8 h8 tk8 F8 N8 off8
      rw [List.take_of_length_le (by rw [tabN_length, hns6]; exact Nat.le_refl _)] at hT
      clear F7 N7
      obtain ⟨base, hbase, N9⟩ := News.opq' N8
      rw [← hbase] at off8
      have hT2 : TabIn base ys2 (tabN ns) := hT.sub fun p hp => by rw [hbase]; exact List.mem_append_left _ hp
      have mD : (D, oD) ∈ base := by rw [hbase]; exact List.mem_append_right _ (by k_mem)
      obtain ⟨oc, mC, dC⟩ : ∃ oc, (S1.heap.objs.size + 1 + 1 + 1, oc) ∈ base ∧ oc.data = Data.cell (some (.ref D)) := by rw [hbase]; exact ⟨_, List.mem_append_right _ (by k_mem), by assumption⟩
      have mL : (l7, listOf #[.ref d7] 0) ∈ base := by rw [hbase]; exact List.mem_append_right _ (by k_mem)
      obtain ⟨tA, tB, mT⟩ : ∃ tA tB, (d7, ({ cls := .type "tuple", data := .seq #[.str (Str.ofString "7") tA, .str (Str.ofString "ab") tB] } : Obj)) ∈ base := by rw [hbase]; exact ⟨_, _, List.mem_append_right _ (by k_mem)⟩
      clear hbase hT N8
      rw [seven, ab] at mT
      have hT3 : TabIn base (.ref d7 :: ys2) (tab0 ns) := .cons mT hT2
      have hyl := hT2.length
      rw [tabN_length, hns6] at hyl
      refine kmk_add_lit F8 N9 (its := #[.ref d7]) (its2 := ys2.toArray) (zs := .ref d7 :: ys2) ⟨_, (N9 _ (.tail _ mL)).1, rfl, _, rfl⟩ ⟨_, (N9 _ (.head _)).1, rfl, _, rfl⟩ (by simp) ?_ (by simp [hyl, sizeLine_eq])
      intro Lh h9 F10 N10 l10
      have hLn : ∀ p ∈ base, p.1 ≠ Lh := fun p hp => Nat.ne_of_lt (l10 p (.tail _ hp))
      have N11 : News _ _ _ ((Lh, listOf (Value.ref d7 :: ys2).toArray 0) :: base) := fun p hp => N10 p (by rcases List.mem_cons.mp hp with rfl | hp; exact .head _; exact .tail _ (.tail _ hp))
      clear F8 N9 N10 l10 off8
      walk1
      walk1
      k_dflt (refine' MkH.use (init_ok Lh 0 (Value.ref d7 :: ys2) (tab0 ns)) ?k1 ?k2 ?k3 ?k4 ?k5 ?k6 ?kp ?k8 ?k9 ?_; walk_at "mine:sides"; (case kp => exact ⟨.head _, hT3.sub (fun p hp => .tail _ hp), tab0_ok hns6⟩))
      intro S5 d5 hh5 th5 n5 h5 tk5 F5 N5 l5 m5
      clear F10 N11
      walk1
      (rename Fr _ _ _ _ => F6); (rename News _ _ _ _ => N6)
      iterate 17 walk1
      (rename Fr _ _ _ _ => F6); (rename News _ _ _ _ => N6)
      k_dflt (refine slice_rev F6 N6 ?_ (by with_unfolding_all rfl) (by intro _; with_unfolding_all rfl))
      intro h8 t8 k8 F8 N8
      clear F6 N6
      walk1
      walk1
      (rename Fr _ _ _ _ => F9); (rename News _ _ _ _ => N9)
      rename_i T9 h10 l9
      have eTL : T9 ≠ Lh := Nat.ne_of_gt l9.2.2.1
      have eSL : S5 ≠ Lh := Nat.ne_of_gt (Nat.lt_trans (m5 _ (.head _)) l5)
      have eDL : d5 ≠ Lh := Nat.ne_of_gt (m5 _ (.head _))
      obtain ⟨oT9, hcT, hdT, N10⟩ : ∃ oT9 : Obj, oT9.cls = .type "tuple" ∧ oT9.data = .seq [Value.str (text3 n9) t9, Value.str ⟨#[sgn (n9 / 256), sgn (n9 / 16)]⟩ t8].toArray 0 ∧ News _ _ _ ((T9, oT9) :: (Lh, listOf (Value.ref d7 :: ys2).toArray 0) :: ([] ++ ((S5, instObj 171 d5) :: (d5, dictOf [⟨hh5, .str (Str.ofString "_headers") th5, .ref Lh⟩] n5) :: base))) := ⟨({ cls := .type "tuple", data := .seq #[Value.str (text3 n9) t9, Value.str ⟨#[sgn (n9 / 256), sgn (n9 / 16)]⟩ t8] } : Obj), rfl, rfl, fun p hp => N9 p (by
        simp only [List.mem_cons, List.nil_append] at hp ⊢
        rcases hp with h | h | h | h | h <;> simp [h])⟩
      clear N9 m5
      refine turns_tupN (items := [Value.str (text3 n9) t9, Value.str ⟨#[sgn (n9 / 256), sgn (n9 / 16)]⟩ t8]) [Str.ofString "sought"] (fun i u news₁ => ∃ vs k ext, news₁ = (Lh, listOf vs.toArray k) :: (ext ++ ((S5, instObj 171 d5) :: (d5, dictOf [⟨hh5, .str (Str.ofString "_headers") th5, .ref Lh⟩] n5) :: base)) ∧ (∀ p ∈ ext, p.1 ≠ Lh) ∧ TabIn (ext ++ ((S5, instObj 171 d5) :: (d5, dictOf [⟨hh5, .str (Str.ofString "_headers") th5, .ref Lh⟩] n5) :: base)) vs (tabAt ns n9 i)) rfl F9 N10 hcT hdT ?_ rfl rfl (by decide) ?_ ?_
      · exact ⟨_, _, [], rfl, (fun p hp => absurd hp List.not_mem_nil), hT3.sub fun p hp => .tail _ (.tail _ hp)⟩
      · rintro i v u _ h11 tk11 I11 oI11 hv ⟨vs, k11, ext, rfl, hext, hTc⟩ hnI hIT hIc F11 N11
        obtain ⟨hi2, tr, rfl⟩ := src_at hv
        have hok := law_plain hns6 n9 i hi2
        have hnx := tabAt_next ns n9 i hi2
        generalize tabAt ns n9 i = tab at *
        generalize srcAt n9 i = src at *
        clear F9 N10 hv
        simp only [over] at F11
        have eIL : I11 ≠ Lh := fun e => hnI _ (.head _) e.symm
        iterate 11 walk1
        (rename Fr _ _ _ _ => F12); (rename News _ _ _ _ => N12)
        have hvl := hTc.length
        have hgl := hok.good.len
        refine' Chg.use (rest := (I11, oI11) :: (T9, oT9) :: (ext ++ ((S5, instObj 171 d5) :: (d5, dictOf [⟨hh5, .str (Str.ofString "_headers") th5, .ref Lh⟩] n5) :: base))) (collect_ok S5 d5 Lh hh5 th5 n5 k11 tr src vs tab) ?k1 ?k2 ?k3 ?k4 ?k5 ?k6 ?kn ?kp ?kL ?kd ?ku ?_
        walk_at "mine:chg"
        case kn =>
          intro p hp
          simp only [List.mem_cons] at hp ⊢
          rcases hp with h | h | h | h <;> simp [h]
        case kp =>
          refine ⟨.tail _ (.tail _ (List.mem_append_right _ (.head _))), .tail _ (.tail _ (List.mem_append_right _ (.tail _ (.head _)))), hTc.sub fun p hp => .tail _ (.tail _ hp), hok.good, hok.flat, hok.signs⟩
        case kL =>
          intro p hp
          simp only [List.mem_cons, List.mem_append] at hp
          rcases hp with h | h | h | h | h | h
          · rw [h]; exact eIL
          · rw [h]; exact eTL
          · exact hext p h
          · rw [h]; exact eSL
          · rw [h]; exact eDL
          · exact hLn p h
        rintro r13 h13 tk13 its13 k13 ext13 ⟨rfl, hT13⟩ F13 N13 hx13
        clear F12 N12
        obtain ⟨B13, hB13, N14⟩ := News.opq N13
        have mS : (S5, instObj 171 d5) ∈ B13 := by rw [hB13]; exact .tail _ (List.mem_append_right _ (.tail _ (.tail _ (List.mem_append_right _ (.head _)))))
        have md : (d5, dictOf [⟨hh5, .str (Str.ofString "_headers") th5, .ref Lh⟩] n5) ∈ B13 := by rw [hB13]; exact .tail _ (List.mem_append_right _ (.tail _ (.tail _ (List.mem_append_right _ (.tail _ (.head _))))))
        have mLh : (Lh, listOf its13.toArray k13) ∈ B13 := by rw [hB13]; exact .head _
        have sB : ∀ p ∈ base, p ∈ B13 := fun p hp => by rw [hB13]; exact .tail _ (List.mem_append_right _ (.tail _ (.tail _ (List.mem_append_right _ (.tail _ (.tail _ hp))))))
        have mD13 := sB _ mD
        have mC13 := sB _ mC
        have hT14 : TabIn B13 its13 (collectP tab src) := hT13.sub fun p hp => by rw [hB13]; exact .tail _ hp
        have hil := hT14.length
        clear N13
        iterate 7 walk1
        k_dflt (refine' Mk.use (items_ok S5 d5 Lh hh5 th5 n5 k13 its13) ?k1 ?k2 ?k3 ?k4 ?k5 ?k6 ?kp ?kd ?ku ?_; walk_at "mine:chg")
        case kp => exact ⟨mS, md, mLh, by rw [hil]; exact hok.len⟩
        rintro R1 o1 h15 tk15 ⟨kR, rfl⟩ F15 N15 hR1
        clear F13 N14
        iterate 9 walk1
        k_dflt (refine' MkT.use (left_ok D oD kvs (textsN ns) src tr) ?k1 ?k2 ?k3 ?k4 ?k5 ?k6 ?kp ?kd ?ku ?_; walk_at "mine:chg")
        case kp => exact ⟨.tail _ mD13, hD, hS, lD, hok.hTX, hok.hTL, hok.hrow, hok.hr6, hok.hkl, hok.hok, hok.ho6⟩
        rintro R2 its2 kR2 ext2 h16 tk16 hP16 F16 N16
        rw [← hok.same] at hP16
        clear F15 N15
        refine ne_rows N16 (.tail _ (List.mem_append_right _ (.head _))) hT14 (fun p hp => .tail _ (List.mem_append_right _ (.tail _ hp))) (.head _) hP16 (fun p hp => .tail _ (List.mem_append_left _ hp)) hok.ok (by ke_room) ?_
        iterate 3 walk1
        dsimp only
        walk1
        have hB : ∀ p ∈ B13, p ∈ (R2, listOf its2.toArray kR2) :: (ext2 ++ (R1, listOf its13.toArray kR) :: B13) := fun p hp => .tail _ (List.mem_append_right _ (.tail _ hp))
        rw [hB13] at hB
        refine ⟨_, _, _, (Lh, listOf its13.toArray k13) :: ((ext13 ++ (T9, oT9) :: ext) ++ ((S5, instObj 171 d5) :: (d5, dictOf [⟨hh5, .str (Str.ofString "_headers") th5, .ref Lh⟩] n5) :: base)), rfl, F16, fun p hp => ?_, fun p hp => ?_, fun p hp => ?_, ?_, its13, k13, ext13 ++ (T9, oT9) :: ext, rfl, ?_, ?_⟩
        · refine N16 p (hB13 ▸ hB p ?_)
          simp only [List.mem_cons, List.mem_append] at hp ⊢
          rcases hp with h | (h | h | h) | h | h | h <;> simp [h]
        · refine N16 p (hB13 ▸ hB p ?_)
          simp only [List.mem_cons, List.mem_append, List.not_mem_nil, or_false] at hp ⊢
          rcases hp with h | h <;> simp [h]
        · intro hq
          have hq := List.mem_singleton.mp hq
          simp only [List.mem_cons, List.mem_append] at hp
          rcases hp with h | (h | h | h) | h
          · exact eIL (by rw [← hq, h])
          · exact (hx13 p h).2 _ (.head _) hq.symm
          · exact hIT (by rw [← hq, h])
          · exact hnI p (.tail _ (List.mem_append_left _ h)) hq
          · exact hnI p (.tail _ (List.mem_append_right _ (by simpa using h))) hq
        · intro z hz
          simp only [List.mem_cons, List.not_mem_nil, or_false] at hz
          simp only [hz, if_false]
        · intro p hp
          simp only [List.mem_cons, List.mem_append] at hp
          rcases hp with h | h | h
          · exact (hx13 p h).1
          · rw [h]; exact eTL
          · exact hext p h
        · rw [hnx]
          have := tab_drop hT13 hIc
          simpa using this
      · rintro h17 tk17 u _ ⟨vs, k, ext, rfl, _, _⟩ F17 N17
        clear F9 N10
        simp only [over] at F17
        k_steps
end Mine
end

theorem PySem.Challenge.cw_il0203_01_holds : PySem.Challenge.rw_il0203_01.Holds :=
  Mine.law_holds
