import PyProof.Rows.All
import Wide.All
import OpenK.AllK
import Wide.FinOn
import PySem.Challenge.RW_xb0009_01
open PySem PySem.W PyProof.Rows
set_option Elab.async false
namespace Mine
section
section
variable {prog : Program} {w : World} {A : Around} {E : Value → Shared → Prop} {s : Shared} {x : PySem.Str} {t : Tok} {d : Addr} {f : Int → Option Value} {g : Nat → Option PySem.Str}
theorem mapOf_stays {h h' : Heap} (hm : h.MapOf (intKind prog w) d f) (hs : h.StaysIn h') : h'.MapOf (intKind prog w) d f :=
  let ⟨o, es, ep, ho, r⟩ := hm; ⟨o, es, ep, hs _ _ ho, r⟩
theorem keyErr_lookup : isSubtype (.type "KeyError") (.type "LookupError") = pure true := by
  rw [isSubtype_type]; kernel_rfl
structure TabFn (f : Int → Option Value) (g : Nat → Option PySem.Str) : Prop where
  no : ∀ c, g c = none → f (c : Int) = none
  yes : ∀ c y, g c = some y → ∃ t, f (c : Int) = some (.str y t)
  two : ∀ c y, g c = some y → y.cps.size = 2
theorem look_keep {c : Nat} {Q : Builtin.Str.Mapped → Shared → Prop} (hh : A.handled = none) (hd : (d == sysModules) = false) (hm : s.heap.MapOf (intKind prog w) d f) (hv : f (c : Int) = none)
    (h : ∀ h' tk, s.heap.StaysIn h' → Q .keep { s with heap := h', toks := tk }) : wpAny (model prog w) A (Builtin.Str.tableLookup (.ref d) c) Q E s := by
  unfold Builtin.Str.tableLookup
  refine wpAny_bind (wpAny_attempt (wpAny_bind (wpAny_mkInt ?_)))
  refine wpAny_getItem_missing_of (knd := intKind prog w) (k := (c : Int)) (f := f) (intKind_is _ _ _ _) hd hh hm hv ?_
  intro h' e hx
  obtain ⟨ob, tt, ho, hc, _⟩ := hx.there
  refine wpAny_bind (wpAny_isInstance (T := "KeyError") (b := true) ⟨ob, ho, hc⟩ keyErr_lookup ?_)
  exact wpAny_bind (wpAny_rule (wpAny_pure (h _ _ hx.keeps)))
theorem look_text {c : Nat} {y : PySem.Str} {ty : Tok} {Q : Builtin.Str.Mapped → Shared → Prop} (hm : s.heap.MapOf (intKind prog w) d f) (hv : f (c : Int) = some (.str y ty))
    (h : ∀ tk, Q (.text y) { s with toks := tk }) : wpAny (model prog w) A (Builtin.Str.tableLookup (.ref d) c) Q E s := by
  unfold Builtin.Str.tableLookup
  refine wpAny_bind (wpAny_attempt (wpAny_bind (wpAny_mkInt ?_)))
  refine wpAny_getItem_of (knd := intKind prog w) (k := (c : Int)) (f := f) (intKind_is _ _ _ _) hm hv ?_
  show wpAny _ _ (do let i? ← asInt? (Value.str y ty); _) _ _ _
  exact wpAny_bind (wpAny_bind (wpAny_pure (wpAny_pure (wpAny_bind (wpAny_pure (wpAny_pure (h _)))))))
theorem forIn_inv {α σ : Type} {M : Model} (N : Nat) (I : List α → σ → Shared → Prop) {body : α → σ → Sem (ForInStep σ)}
    (step : ∀ pre c st s, pre.length < N → I pre st s → wpAny M A (body c st) (fun r s' => ∃ st', r = .yield st' ∧ I (pre ++ [c]) st' s') E s) :
    ∀ (l : List α) (pre : List α) (st : σ) (s : Shared) (Q : σ → Shared → Prop), pre.length + l.length = N → I pre st s → (∀ st' s', I (pre ++ l) st' s' → Q st' s') → wpAny M A (forIn l st body) Q E s := by
  intro l
  induction l with
  | nil =>
    intro pre st s Q _ hI hQ
    rw [List.forIn_nil]
    exact wpAny_pure (hQ _ _ (by simpa using hI))
  | cons c r ih =>
    intro pre st s Q hN hI hQ
    rw [List.length_cons] at hN
    rw [List.forIn_cons]
    refine wpAny_bind (wpAny_mono (step pre c st s (by omega) hI) ?_ fun _ _ e => e)
    rintro _ s' ⟨st', rfl, hI'⟩
    exact ih (pre ++ [c]) st' s' Q (by rw [List.length_append, List.length_cons, List.length_nil]; omega) hI' (by simpa using hQ)
/-- what translate makes of a text's signs -/
def trOne (g : Nat → Option PySem.Str) (c : Nat) : List Nat := match g c with
  | some y => y.cps.toList
  | none => [c]
def trList (g : Nat → Option PySem.Str) (cs : List Nat) : List Nat := cs.flatMap (trOne g)
def tr (g : Nat → Option PySem.Str) (x : PySem.Str) : PySem.Str := ⟨(trList g x.cps.toList).toArray⟩
def catted (ps : List PySem.Str) : Array Nat := ps.reverse.foldl (fun acc p => acc ++ p.cps) #[]
theorem catted_cons (p : PySem.Str) (ps : List PySem.Str) : catted (p :: ps) = catted ps ++ p.cps := by
  unfold catted
  rw [List.reverse_cons, List.foldl_append]
  rfl
theorem trList_snoc (g : Nat → Option PySem.Str) (cs : List Nat) (c : Nat) : trList g (cs ++ [c]) = trList g cs ++ trOne g c := by
  simp [trList]
theorem trOne_len (T : TabFn f g) (c : Nat) : (trOne g c).length ≤ 2 := by
  unfold trOne
  split
  · rename_i y h; have := T.two c y h; simp [this]
  · simp
theorem trList_len (T : TabFn f g) (cs : List Nat) : (trList g cs).length ≤ 2 * cs.length := by
  induction cs with
  | nil => simp [trList]
  | cons c r ih =>
    have e : trList g (c :: r) = trOne g c ++ trList g r := rfl
    rw [e, List.length_append, List.length_cons]
    have := trOne_len T c
    omega
theorem look_any {β : Type} {c : Nat} {K : Builtin.Str.Mapped → Sem β} {Q : β → Shared → Prop} (T : TabFn f g) (hh : A.handled = none) (hd : (d == sysModules) = false) (hm : s.heap.MapOf (intKind prog w) d f)
    (h0 : g c = none → ∀ h' tk, s.heap.StaysIn h' → wpAny (model prog w) A (K .keep) Q E { s with heap := h', toks := tk })
    (h1 : ∀ y, g c = some y → ∀ h' tk, s.heap.StaysIn h' → wpAny (model prog w) A (K (.text y)) Q E { s with heap := h', toks := tk }) : wpAny (model prog w) A (Builtin.Str.tableLookup (.ref d) c >>= K) Q E s := by
  cases hg : g c with
  | none => exact wpAny_bind (look_keep hh hd hm (T.no c hg) fun h' tk hs => h0 hg h' tk hs)
  | some y =>
    obtain ⟨ty, e⟩ := T.yes c y hg
    exact wpAny_bind (look_text hm e fun tk => h1 y hg s.heap tk fun _ _ e => e)
abbrev TrSt := List PySem.Str × Nat × Bool × List (Nat × Option Nat) × Bool
structure TrInv (g : Nat → Option PySem.Str) (s₀ : Shared) (pre : List Nat) (st : TrSt) (s : Shared) : Prop where
  text : catted st.1 = (trList g pre).toArray
  total : st.2.1 ≤ 2 * pre.length
  known : ∀ c a, st.2.2.2.1.lookup c = some a → a = some c ∧ g c = none
  drop : st.2.2.2.2 = false
  heap : ∃ h' tk, s = { s₀ with heap := h', toks := tk } ∧ s₀.heap.StaysIn h'
theorem TrInv.keep {g : Nat → Option PySem.Str} {s₀ s : Shared} {pre : List Nat} {ps : List PySem.Str} {n : Nat} {fa fa' : Bool} {kn kn' : List (Nat × Option Nat)} {c : Nat} (I : TrInv g s₀ pre (ps, n, fa, kn, false) s) (hg : g c = none)
    (hk : ∀ c a, kn'.lookup c = some a → a = some c ∧ g c = none) {s' : Shared} (hs : ∃ h' tk, s' = { s₀ with heap := h', toks := tk } ∧ s₀.heap.StaysIn h') : TrInv g s₀ (pre ++ [c]) (⟨#[c]⟩ :: ps, n + 1, fa', kn', false) s' where
  text := by
    rw [catted_cons, I.text, trList_snoc]
    simp [trOne, hg]
  total := by have := I.total; simp only [List.length_append, List.length_cons, List.length_nil] at *; omega
  known := hk
  drop := rfl
  heap := hs
theorem TrInv.put {g : Nat → Option PySem.Str} {s₀ s : Shared} {pre : List Nat} {ps : List PySem.Str} {n : Nat} {fa fa' : Bool} {kn kn' : List (Nat × Option Nat)} {c : Nat} {y : PySem.Str} (I : TrInv g s₀ pre (ps, n, fa, kn, false) s) (T : TabFn f g) (hg : g c = some y)
    (hk : ∀ c a, kn'.lookup c = some a → a = some c ∧ g c = none) {s' : Shared} (hs : ∃ h' tk, s' = { s₀ with heap := h', toks := tk } ∧ s₀.heap.StaysIn h') : TrInv g s₀ (pre ++ [c]) (y :: ps, n + y.length, fa', kn', false) s' where
  text := by
    rw [catted_cons, I.text, trList_snoc]
    simp [trOne, hg]
  total := by have := I.total; have h2 := T.two c y hg; simp only [List.length_append, List.length_cons, List.length_nil, PySem.Str.length] at *; omega
  known := hk
  drop := rfl
  heap := hs
theorem tooLong_no {n : Nat} (h : n ≤ 16777216) : Builtin.Str.tooLong n = false := by
  unfold Builtin.Str.tooLong
  rw [sizeLine_eq]
  exact decide_eq_false (by omega)
theorem call_translate {Q : Value → Shared → Prop} (T : TabFn f g) (hh : A.handled = none) (hd : (d == sysModules) = false) (hm : s.heap.MapOf (intKind prog w) d f) (hx : x.length ≤ 1000)
    (h : ∀ t' h' tk, s.heap.StaysIn h' → Q (.str (tr g x) t') { s with heap := h', toks := tk }) :
    wpAny (model prog w) A (call (.builtin "str.translate") [.str x t, .ref d]) Q E s := by
  refine wpAny_call_entry F.slot_str_translate (typeIs_str _ _ _) F.entry_str_translate ?_ (F.args_str_translate_2 _ _)
  unfold Builtin.«str.translate»
  refine wpAny_bind ?_
  show wpAny _ _ (pure (Value.str x t, x, Value.ref d)) _ _ _
  refine wpAny_pure ?_
  dsimp only
  by_cases h0 : (x.length == 0) = true
  · rw [if_pos h0]
    refine wpAny_bind (wpAny_rule (wpAny_bind ?_))
    show wpAny _ _ (pure (Value.str x t)) _ _ _
    refine wpAny_pure (wpAny_pure ⟨_, rfl, ?_⟩)
    have e : tr g x = x := by
      obtain ⟨⟨l⟩⟩ := x
      cases l with
      | nil => rfl
      | cons c r => simp [PySem.Str.length] at h0
    have := h t s.heap s.toks (fun _ _ e => e)
    rwa [e] at this
  rw [if_neg h0, ← Array.forIn_toList]
  refine wpAny_bind (forIn_inv x.cps.toList.length (TrInv g s) ?_ x.cps.toList [] _ s _ (by simp) ⟨rfl, by simp, by simp, rfl, s.heap, s.toks, rfl, fun _ _ e => e⟩ ?_)
  · rintro pre c ⟨ps, n, fa, kn, ad⟩ s₁ hlt I
    have e0 : ad = false := I.drop
    subst e0
    have hl : pre.length < 1000 := by have := hx; simp only [PySem.Str.length] at this; simp only [Array.length_toList] at hlt; omega
    have ht := I.total
    dsimp only at ht
    dsimp only
    rw [tooLong_no (by omega), if_neg Bool.false_ne_true]
    obtain ⟨h₁, k₁, rfl, hst⟩ := I.heap
    have hm₁ := mapOf_stays hm hst
    have hk := I.known
    dsimp only at hk
    cases fa with
    | false =>
      simp only [Bool.false_eq_true, if_false]
      refine look_any T hh hd hm₁ ?_ ?_
      · intro hg h' tk hs
        exact wpAny_pure ⟨_, rfl, I.keep hg hk ⟨h', tk, rfl, fun b o e => hs b o (hst b o e)⟩⟩
      · intro y hg h' tk hs
        exact wpAny_pure ⟨_, rfl, I.put T hg hk ⟨h', tk, rfl, fun b o e => hs b o (hst b o e)⟩⟩
    | true =>
      simp only [if_true, Bool.false_eq_true, if_false]
      cases hl : kn.lookup c with
      | some a =>
        obtain ⟨rfl, hg⟩ := hk c a hl
        dsimp only
        exact wpAny_bind (wpAny_pure (wpAny_pure ⟨_, rfl, I.keep hg hk ⟨h₁, k₁, rfl, hst⟩⟩))
      | none =>
        dsimp only
        refine look_any T hh hd hm₁ ?_ ?_
        · intro hg h' tk hs
          refine wpAny_bind (wpAny_pure (wpAny_pure ⟨_, rfl, I.keep hg ?_ ⟨h', tk, rfl, fun b o e => hs b o (hst b o e)⟩⟩))
          intro c' a' e
          rw [List.lookup_cons] at e
          by_cases hc : (c' == c) = true
          · rw [hc] at e
            have hc' : c' = c := eq_of_beq hc
            subst hc'
            exact ⟨(Option.some.inj e).symm, hg⟩
          · rw [Bool.not_eq_true] at hc
            rw [hc] at e
            exact hk c' a' e
        · intro y hg h' tk hs
          have h2 := T.two c y hg
          have h3 : (y.length == 1) = false := by simp [PySem.Str.length, h2]
          simp only [h3, Bool.false_and, Bool.false_eq_true, if_false]
          refine wpAny_bind (wpAny_pure (wpAny_bind (wpAny_rule ?_)))
          refine look_any T hh hd (mapOf_stays hm₁ hs) ?_ ?_
          · intro hg' h'' tk' hs'
            rw [hg] at hg'; cases hg'
          · intro y' hg' h'' tk' hs'
            exact wpAny_pure ⟨_, rfl, I.put T hg' hk ⟨h'', tk', rfl, fun b o e => hs' b o (hs b o (hst b o e))⟩⟩
  · rintro ⟨ps, n, fa, kn, ad⟩ s₁ I
    have ht := I.total
    have htx := I.text
    simp only [List.nil_append, Array.length_toList] at ht htx
    dsimp only
    have hx' := hx
    simp only [PySem.Str.length] at hx'
    rw [tooLong_no (by omega), if_neg Bool.false_ne_true]
    obtain ⟨h', tk, rfl, hst⟩ := I.heap
    have e : (⟨List.foldl (fun acc p => acc ++ p.cps) #[] ps.reverse⟩ : PySem.Str) = tr g x := by
      show (⟨catted ps⟩ : PySem.Str) = tr g x
      rw [htx]; rfl
    rw [e]
    unfold retStr
    refine wpAny_bind (wpAny_mkStr (wpAny_pure ⟨_, rfl, h _ _ _ hst⟩) ?_)
    have hlen := trList_len T x.cps.toList
    have hsz : x.cps.toList.length = x.cps.size := Array.length_toList
    rw [sizeLine_eq]
    show (trList g x.cps.toList).toArray.size ≤ _
    rw [List.size_toArray]
    omega
end
end
end Mine
namespace Mine
section
def specials : List Nat := [40, 41, 91, 93, 123, 125, 63, 42, 43, 45, 124, 94, 36, 92, 46, 38, 126, 35, 32, 9, 10, 13, 11, 12]
def escG (c : Nat) : Option PySem.Str := if c ∈ specials then some ⟨#[92, c]⟩ else none
def esc (x : PySem.Str) : PySem.Str := tr escG x
def escOk : List DictEntry → List Nat → Bool
  | [], [] => true
  | ⟨h, .int i _, .str y _⟩ :: es, c :: cs => h == hashInt i && i == (c : Int) && y == ⟨#[92, c]⟩ && escOk es cs
  | _, _ => false
section
variable {prog : Program} {w : World} {A : Around} {E : Value → Shared → Prop} {s : Shared} {x : PySem.Str} {t : Tok} {d : Addr}
theorem escOk_keys : ∀ {es : List DictEntry} {cs : List Nat}, escOk es cs = true → ∀ e ∈ es, ∃ k, (intKind prog w).is k e.key = true ∧ e.hash = (intKind prog w).hash k
  | [], _, _, _, he => nomatch he
  | ⟨h, .int i tk, .str y ty⟩ :: es, c :: cs, ho, e, he => by
    simp only [escOk, Bool.and_eq_true, beq_iff_eq] at ho
    rcases List.mem_cons.mp he with rfl | he
    · exact ⟨i, intKind_is _ _ _ _, ho.1.1.1⟩
    · exact escOk_keys ho.2 e he
  | ⟨h, .int i tk, .str y ty⟩ :: es, [], ho, e, he => by simp [escOk] at ho
theorem escOk_find : ∀ {es : List DictEntry} {cs : List Nat}, escOk es cs = true → ∀ c : Nat,
    (c ∉ cs → es.find? (fun e => Value.isInt (c : Int) e.key) = none) ∧ (c ∈ cs → ∃ e t, es.find? (fun e => Value.isInt (c : Int) e.key) = some e ∧ e.val = .str ⟨#[92, c]⟩ t)
  | [], [], _, c => ⟨fun _ => rfl, fun h => nomatch h⟩
  | ⟨h, .int i tk, .str y ty⟩ :: es, c' :: cs, ho, c => by
    simp only [escOk, Bool.and_eq_true, beq_iff_eq] at ho
    obtain ⟨⟨⟨h1, h2⟩, h3⟩, h4⟩ := ho
    subst h2 h3
    have ih := escOk_find h4 c
    rw [List.find?_cons]
    by_cases hc : c = c'
    · subst hc
      have e : Value.isInt (c : Int) (Value.int (c : Int) tk) = true := by simp [Value.isInt]
      exact ⟨fun hn => absurd (List.mem_cons_self ..) hn, fun _ => ⟨_, ty, by rw [e], rfl⟩⟩
    · have e : Value.isInt (c : Int) (Value.int (c' : Int) tk) = false := by
        simp only [Value.isInt, beq_eq_false_iff_ne, ne_eq]; omega
      rw [e]
      simp only [List.mem_cons, hc, false_or]
      exact ih
  | ⟨h, .int i tk, .str y ty⟩ :: es, [], ho, c => by simp [escOk] at ho
  | [], _ :: _, ho, c => by simp [escOk] at ho
theorem escTab {es : Array DictEntry} (ho : escOk es.toList specials = true) : TabFn (fun k => findBy (intKind prog w).is es k) escG := by
  have key : ∀ c : Nat, findBy (intKind prog w).is es (c : Int) = (es.toList.find? (fun e => Value.isInt (c : Int) e.key)).map (·.val) := by
    intro c
    obtain ⟨l⟩ := es
    simp only [findBy, List.find?_toArray]
    rfl
  refine ⟨fun c hc => ?_, fun c y hc => ?_, fun c y hc => ?_⟩
  · unfold escG at hc
    split at hc
    · cases hc
    · rename_i hn
      simp only [key, (escOk_find ho c).1 hn]; rfl
  · unfold escG at hc
    split at hc
    · rename_i hn
      obtain ⟨e, t, h1, h2⟩ := (escOk_find ho c).2 hn
      cases hc
      exact ⟨t, by simp only [key, h1, Option.map_some, h2]⟩
    · cases hc
  · unfold escG at hc
    split at hc
    · cases hc; rfl
    · cases hc
theorem tr_K {K : Frag} {h₀ : Heap} {L : Addr} {m : PySem.Str → Option Value} {news : List (Addr × Obj)} {es : Array DictEntry} {n : Nat} {Q : Value → Shared → Prop}
    (F : Fr h₀ L s.heap m) (X₀ : K.In h₀) (N : News h₀ L s.heap news) (hl : K.lookup d = some ⟨.type "dict", none, .dict es n, #[]⟩) (hk : escOk es.toList specials = true)
    (hh : A.handled = none) (hd : (d == sysModules) = false) (hx : x.length ≤ 1000)
    (h : ∀ t' h' tk, Fr h₀ L h' m → News h₀ L h' news → Q (.str (esc x) t') { s with heap := h', toks := tk }) :
    wpAny (model prog w) A (call (.builtin "str.translate") [.str x t, .ref d]) Q E s := by
  have hm : s.heap.MapOf (intKind prog w) d (fun k => findBy (intKind prog w).is es k) :=
    ⟨_, es, n, F.keep _ _ (X₀ _ _ hl), ⟨rfl, rfl, rfl⟩, rfl, fun e he => escOk_keys hk e (Array.mem_toList_iff.mpr he), fun _ => rfl⟩
  refine call_translate (escTab (prog := prog) (w := w) hk) hh hd hm hx fun t' h' tk hs => h t' h' tk ?_ ?_
  · obtain ⟨⟨oL, a1, a2, hL, a3⟩, kp, ab⟩ := F
    exact ⟨⟨oL, a1, a2, hs _ _ hL, a3⟩, fun b o e => hs b o (kp b o e), ab⟩
  · exact fun p hp => ⟨hs _ _ (N p hp).1, (N p hp).2⟩
end
end
end Mine
namespace Mine
section
open LCg
section
variable {prog : Program} {w : World} {A : Around} {E : Value → Shared → Prop} {s : Shared} {h₀ : Heap} {L : Addr} {m : PySem.Str → Option Value} {env : Env}
theorem str_walks {I : Addr} (hh : A.handled = none) (ty : String) (hty : ty = "str_ascii_iterator" ∨ ty = "str_iterator") (x : PySem.Str) (t : Tok) : Walks prog w A I [I] [I] x.cps.size (SignAt x) (fun i h => h.IsStrIter I ty x t i) := by
  rcases hty with rfl | rfl
  · exact Walks.strAscii hh I x t
  · exact Walks.strWide hh I x t
theorem pyIter_str2 {x : PySem.Str} {t : Tok} {Q : Value → Shared → Prop}
    (hQ : ∀ ty, ty = "str_ascii_iterator" ∨ ty = "str_iterator" → Q (.ref s.heap.objs.size) { s with heap := s.heap.push { cls := .type ty, data := .fields #[.str x t, .int 0 0] } }) : wpAny (model prog w) A (pyIter (.str x t)) Q E s := by
  cases ha : x.cps.all (· < 128)
  · exact wpAny_pyIter_wide ha (hQ _ (.inr rfl))
  · exact wpAny_pyIter_ascii ha (hQ _ (.inl rfl))
def SrcS (prog : Program) (w : World) (A : Around) (h₀ : Heap) (L : Addr) (m : PySem.Str → Option Value) (env : Env) (elt : Expr) (x : PySem.Str) (scope : Scope) (cl : List (PySem.Str × Addr)) (Fin : Shared → List Value → List (Addr × Obj) → Prop) (xv : Value) (s₁ : Shared) : Prop :=
  ∃ y t news, xv = .str y t ∧ A.handled = none ∧ Fr h₀ L s₁.heap m ∧ News h₀ L s₁.heap news ∧ y.cps.size ≤ sizeLine ∧
    ∀ s₂ : Shared, (∃ h, s₂ = { s₁ with heap := h }) → CompRest prog w A h₀ L m env elt x scope cl s₂ (fun _ => True) (SignAt y) (Fin s₂) y.cps.size 0 [] news
theorem ListComp_S {elt iter : Expr} {x : PySem.Str} {px : Pos} {scope : Scope} {cl : List (PySem.Str × Addr)} {pos : Pos} {Q : Value → Shared → Prop} (F₀ : Fr h₀ L s.heap m)
    (hclos : closureFor scope env = pure cl) (hcell : ∀ y ∈ scope.names, y.2 ≠ .cell) (hkind : scope.kind = .function)
    (hnames : ∀ y ∈ scope.names, y.2 = .local → scope.names.lookup y.1 = some .local) (hx : scope.names.lookup x = some .local)
    (h : wpAny (model prog w) A (eval iter env) (SrcS prog w A h₀ L m env elt x scope cl (fun s₂ => FinE h₀ L m s₂ Q)) E s)
    (hs : ∀ x, foldedSetIterable iter env x = pure x := by intro _; rfl) :
    wpAny (model prog w) A (eval (.ListComp elt [⟨.Name x px, iter, [], 0⟩] scope pos) env) Q E s := by
  rw [eval_ListComp]
  refine wpAny_comprehension_free (use := none) rfl hs hclos hkind hnames (wpAny_mono h (fun xv s₁ h₁ => ?_) fun _ _ e => e)
  rcases h₁ with ⟨y, t, news, rfl, hh, F, N, hsz, R⟩
  refine pyIter_str2 fun ty hty => ?_
  have up : ∀ b o, s₁.heap.get? b = some o → (s₁.heap.push { cls := .type ty, data := .fields #[.str y t, .int 0 0] }).get? b = some o := fun b o e => Heap.get?_push_of_some _ e
  refine block_U (str_walks hh ty hty y t) hsz (fun i h st => by obtain ⟨o, e, _⟩ := st; exact ⟨o, e⟩) (fun i h h' o nw st e e' _ _ _ => by obtain ⟨o', q, r⟩ := st; rw [e] at q; cases q; exact ⟨o, e', r⟩) hcell hkind hx
    ⟨_, Heap.get?_push_size _ rfl, rfl, rfl⟩ (fun b hb => ?_)
    (F.keeps up) (N.grown up) (Nat.ne_of_lt F.ns.lt) (next_is_new F) (fun p hp => Nat.ne_of_lt (Heap.lt_size (N p hp).1)) trivial (R _ ⟨_, rfl⟩) ?_
  · rw [List.mem_singleton.mp hb]
    show s₁.heap.objs.size < (s₁.heap.push _).objs.size
    rw [Heap.size_push]; exact Nat.lt_succ_self _
  · intro D C h' tk m' ys news' F' N' o1 hn hC₀ hD₀ hCL hDL hCD offC fin
    refine ⟨m', hn, fun h'' hs'' => fin D h'' tk (F'.change hs'' hCL hC₀) (fun p hp => ?_) o1⟩
    refine ⟨hs''.extBut _ _ ?_ (N' p hp).1, (N' p hp).2⟩
    rcases List.mem_cons.mp hp with rfl | hp
    · exact Ne.symm hCD
    · exact offC p hp
theorem rest_signs {elt : Expr} {x : PySem.Str} {scope : Scope} {cl : List (PySem.Str × Addr)} {Fin : List Value → List (Addr × Obj) → Prop} {news : List (Addr × Obj)} {y : PySem.Str} (g : Nat → PySem.Str)
    (turn : ∀ c t I oI C oC D m₂ ys h tk (E' : Value → Shared → Prop), c ∈ y.cps.toList → NsObj oC m₂ → m₂ x = some (.str ⟨#[c]⟩ t) → Fr h₀ L h m → News h₀ L h ((I, oI) :: (C, oC) :: (D, lst ys) :: news) → Off3 I C D news → ((@Ne Nat I C) ∧ (@Ne Nat I D) ∧ (@Ne Nat C D)) →
      wpAny (model prog w) A (eval elt (compEnvC scope cl C env)) (CompEnd h₀ L m { s with heap := h, toks := tk } I oI C oC D (lst ys) (fun _ => True) (fun y news' => KCtEl news (g c) y news')) E' { s with heap := h, toks := tk })
    (fin : ∀ ys, StrsAre ys (y.cps.toList.map g) → Fin ys news) : CompRest prog w A h₀ L m env elt x scope cl s (fun _ => True) (SignAt y) Fin y.cps.size 0 [] news := by
  have key : ∀ (j i : Nat) (ys : List Value), i + j = y.cps.size → StrsAre ys ((y.cps.toList.take i).map g) → CompRest prog w A h₀ L m env elt x scope cl s (fun _ => True) (SignAt y) Fin j i ys news := by
    intro j
    induction j with
    | zero =>
      intro i ys hi hy
      have e : i = y.cps.toList.length := by rw [Array.length_toList]; omega
      subst e
      rw [List.take_length] at hy
      exact CompRest.zero (fin ys hy)
    | succ j ih =>
      intro i ys hi hy
      refine CompRest.succ ?_
      intro v I oI C oC D m₂ h tk E' hv hC hx F N off ne
      obtain ⟨c, t, hc, rfl⟩ := hv
      have hc' : y.cps.toList[i]? = some c := by rw [Array.getElem?_toList]; exact hc
      refine wpAny_mono (turn c t I oI C oC D m₂ ys h tk E' (List.mem_of_getElem? hc') hC hx F N off ne) (fun v s₂ hq => ?_) fun _ _ e => e
      obtain ⟨h', tk', nw, e, F', N', off', hS, hn, t', hy'⟩ := hq
      rw [hn] at N' off'
      refine ⟨h', tk', news, e, F', N', off', trivial, ?_⟩
      rw [hy']
      refine ih (i + 1) _ (by omega) ?_
      rw [List.take_add_one, hc']
      simpa using kct_snoc hy
  exact key _ 0 [] (by omega) (by simp only [List.take_zero, List.map_nil]; exact .nil)
theorem SrcS.of {elt : Expr} {x : PySem.Str} {scope : Scope} {cl : List (PySem.Str × Addr)} {Fin : Shared → List Value → List (Addr × Obj) → Prop} {news : List (Addr × Obj)} {y : PySem.Str} {t : Tok} (g : Nat → PySem.Str)
    (hh : A.handled = none) (F : Fr h₀ L s.heap m) (N : News h₀ L s.heap news) (hsz : y.length ≤ 1000)
    (turn : ∀ g' c t I oI C oC D m₂ ys h tk (E' : Value → Shared → Prop), c ∈ y.cps.toList → NsObj oC m₂ → m₂ x = some (.str ⟨#[c]⟩ t) → Fr h₀ L h m → News h₀ L h ((I, oI) :: (C, oC) :: (D, lst ys) :: news) → Off3 I C D news → ((@Ne Nat I C) ∧ (@Ne Nat I D) ∧ (@Ne Nat C D)) →
      wpAny (model prog w) A (eval elt (compEnvC scope cl C env)) (CompEnd h₀ L m { { s with heap := g' } with heap := h, toks := tk } I oI C oC D (lst ys) (fun _ => True) (fun y news' => KCtEl news (g c) y news')) E' { { s with heap := g' } with heap := h, toks := tk })
    (fin : ∀ g' ys, StrsAre ys (y.cps.toList.map g) → Fin { s with heap := g' } ys news) : SrcS prog w A h₀ L m env elt x scope cl Fin (.str y t) s := by
  refine ⟨y, t, news, rfl, hh, F, N, ?_, ?_⟩
  · rw [sizeLine_eq]; have := hsz; simp only [PySem.Str.length] at this; omega
  · rintro _ ⟨g', rfl⟩
    exact rest_signs g (turn g') (fin g')
end
end
end Mine
namespace Mine
section
open PySem.Calls
/-- a def at f of one text hands back g of it, whatever stands around -/
def SpellClaim (prog : Program) (w : World) (K : Frag) (p : Program) (loose : List PySem.Str) (mean : ExcName → Option Value) (mg mb : PySem.Str → Option Value) (kd ku : Nat) (f : Addr) (g : PySem.Str → PySem.Str) : Prop :=
  ∀ (news : List (Addr × Obj)) (x : PySem.Str) (t : Tok) (dp un : Nat) (gd : Option (List Code)) (cn : PySem.Str) (cs : Scope) (a : Addr) (ccd : Value) (cl : List (PySem.Str × Addr)) (outer : List Env) (A₀ : Around) (base h₀ : Heap) (L : Addr) (m : PySem.Str → Option Value) (s : Shared) (Q E : Value → Shared → Prop),
    Below A₀ base outer h₀ → Fr h₀ L s.heap m → K.In h₀ → News h₀ L s.heap news → Top p loose mean mg mb h₀ → cs.kind = .function → x.length ≤ 1000 → dp + kd < recursionLimit → un + ku < cLine →
    (∀ (t : Tok) (h' : Heap) (tk' : Nat), Fr h₀ L h' m → News h₀ L h' news → Q (.str (g x) t) { s with heap := h', toks := tk' }) →
      wpAny (model prog w) (ktrTop dp un gd cn cs L a ccd cl outer) (call (.ref f) [.str x t]) Q E s
def Marked (P : Prop) : Prop := P
theorem Marked.out {P : Prop} (h : Marked P) : P := h
def escOne (c : Nat) : PySem.Str := ⟨(trOne escG c).toArray⟩
theorem kct_at {news : List (Addr × Obj)} {r y : PySem.Str} {t : Tok} (e : y = r) : KCtEl news r (.str y t) news := by subst e; exact ⟨rfl, t, rfl⟩
theorem meaning_cps : (Str.ofString "()[]{}?*+-|^$\\.&~# \t\n\x0d\x0b\x0c").cps.toList = specials := by decide +kernel
theorem one_no {c : Nat} (h : (Builtin.Str.occurrences (Str.ofString "()[]{}?*+-|^$\\.&~# \t\n\x0d\x0b\x0c") { cps := #[c] } 0 (Str.ofString "()[]{}?*+-|^$\\.&~# \t\n\x0d\x0b\x0c").length 1).isEmpty = true) : (⟨#[c]⟩ : PySem.Str) = escOne c := by
  have e := StrLaws.found_one (Str.ofString "()[]{}?*+-|^$\\.&~# \t\n\x0d\x0b\x0c") c
  rw [h, meaning_cps] at e
  have e' : c ∉ specials := by simpa using e
  simp [escOne, trOne, escG, e']
theorem one_yes {c : Nat} (h : (Builtin.Str.occurrences (Str.ofString "()[]{}?*+-|^$\\.&~# \t\n\x0d\x0b\x0c") { cps := #[c] } 0 (Str.ofString "()[]{}?*+-|^$\\.&~# \t\n\x0d\x0b\x0c").length 1).isEmpty = false) : (Str.ofString "\\" ++ ⟨#[c]⟩ : PySem.Str) = escOne c := by
  have e := StrLaws.found_one (Str.ofString "()[]{}?*+-|^$\\.&~# \t\n\x0d\x0b\x0c") c
  rw [h, meaning_cps] at e
  have e' : c ∈ specials := by simpa using e
  have e2 : Str.ofString "\\" = ⟨#[92]⟩ := by decide +kernel
  rw [e2]
  simp [escOne, trOne, escG, e']
  rfl
theorem join_nil (ys : List PySem.Str) : Txt.join (Str.ofString "") ys = ⟨(ys.flatMap (·.cps.toList)).toArray⟩ := by
  unfold Txt.join
  rw [StrLaws.glued_eq_join]
  have e0 : Str.ofString "" = Str.empty := by decide +kernel
  rw [e0]
  induction ys with
  | nil => rfl
  | cons y r ih =>
    cases r with
    | nil => simp [Str.join]
    | cons z r' =>
      show y ++ Str.empty ++ Str.join Str.empty (z :: r') = _
      rw [ih, Str.append_empty]
      apply Str.ext'
      rw [Str.cps_append]
      simp [List.flatMap_cons]
theorem esc_eq (x : PySem.Str) : esc x = ⟨((x.cps.toList.map escOne).flatMap (·.cps.toList)).toArray⟩ := by
  unfold esc tr trList
  rw [List.flatMap_map]
  rfl
theorem sum_escOne (cs : List Nat) : ((cs.map escOne).map (·.length)).sum ≤ 2 * cs.length := by
  induction cs with
  | nil => simp
  | cons c r ih =>
    simp only [List.map_cons, List.sum_cons, List.length_cons]
    have h : (escOne c).length ≤ 2 := by
      unfold escOne trOne escG PySem.Str.length
      split <;> rename_i e
      · split at e <;> simp_all
        cases e; simp
      · simp
    omega
theorem esc_len (x : PySem.Str) : (esc x).length ≤ 2 * x.length := by
  rw [esc_eq]
  show ((x.cps.toList.map escOne).flatMap (·.cps.toList)).toArray.size ≤ _
  rw [List.size_toArray, List.length_flatMap]
  have h := sum_escOne x.cps.toList
  have e : ((x.cps.toList.map escOne).map (fun y => y.cps.toList.length)).sum = ((x.cps.toList.map escOne).map (·.length)).sum := rfl
  have h3 : x.cps.toList.length = x.length := Array.length_toList
  rw [e]
  omega
section
variable {prog : Program} {w : World} {K : Frag} {p : Program} {loose : List PySem.Str} {mean : ExcName → Option Value} {mg mb : PySem.Str → Option Value} {f : Addr} {g : PySem.Str → PySem.Str}
theorem with_claim {α : Type} {A : Around} {tr : Sem α} {Q : α → Shared → Prop} {E : Value → Shared → Prop} {s : Shared} {h h' : Heap} (kd ku : Nat) (f : Addr) (g : PySem.Str → PySem.Str) (_ : Top p loose mean mg mb h) (_ : K.In h')
    (c : SpellClaim prog w K p loose mean mg mb kd ku f g) (rest : SpellClaim prog w K p loose mean mg mb kd ku f g → wpAny (model prog w) A tr Q E s) : wpAny (model prog w) A tr Q E s := rest c
theorem SpellClaim.use (c : SpellClaim prog w K p loose mean mg mb 1 8 f esc) {news : List (Addr × Obj)} {x : PySem.Str} {t : Tok} {dp un : Nat} {gd : Option (List Code)} {cn : PySem.Str} {cs : Scope} {a : Addr} {ccd : Value} {cl : List (PySem.Str × Addr)} {outer : List Env} {A₀ : Around} {base h₀ : Heap} {L : Addr} {m : PySem.Str → Option Value} {s : Shared} {Q E : Value → Shared → Prop}
    (B : Below A₀ base outer h₀) (F : Fr h₀ L s.heap m) (X : K.In h₀) (N : News h₀ L s.heap news) (T : Top p loose mean mg mb h₀) (hk : cs.kind = .function) (hx : x.length ≤ 1000) (hd : dp + 1 < recursionLimit) (hu : un + 8 < cLine)
    (ret : ∀ (t : Tok) (h' : Heap) (tk' : Nat), (esc x).length ≤ 2000 → Fr h₀ L h' m → News h₀ L h' news → Q (.str (esc x) t) { s with heap := h', toks := tk' }) :
      wpAny (model prog w) (ktrTop dp un gd cn cs L a ccd cl outer) (call (.ref f) [.str x t]) Q E s := c _ _ _ _ _ _ _ _ _ _ _ _ _ _ _ _ _ _ _ _ B F X N T hk hx hd hu fun t h' tk' => ret t h' tk' (Nat.le_trans (esc_len x) (by omega))
theorem SpellClaim.use0 {kd ku : Nat} (c : SpellClaim prog w K p loose mean mg mb kd ku f g) {news : List (Addr × Obj)} {x : PySem.Str} {t : Tok} {dp un : Nat} {gd : Option (List Code)} {cn : PySem.Str} {cs : Scope} {a : Addr} {ccd : Value} {cl : List (PySem.Str × Addr)} {outer : List Env} {A₀ : Around} {base h₀ : Heap} {L : Addr} {m : PySem.Str → Option Value} {s : Shared} {Q E : Value → Shared → Prop}
    (B : Below A₀ base outer h₀) (F : Fr h₀ L s.heap m) (X : K.In h₀) (N : News h₀ L s.heap news) (T : Top p loose mean mg mb h₀) (hk : cs.kind = .function) (hx : x.length ≤ 1000) (hd : dp + kd < recursionLimit) (hu : un + ku < cLine)
    (ret : ∀ (t : Tok) (h' : Heap) (tk' : Nat), Fr h₀ L h' m → News h₀ L h' news → Q (.str (g x) t) { s with heap := h', toks := tk' }) :
      wpAny (model prog w) (ktrTop dp un gd cn cs L a ccd cl outer) (call (.ref f) [.str x t]) Q E s := c _ _ _ _ _ _ _ _ _ _ _ _ _ _ _ _ _ _ _ _ B F X N T hk hx hd hu ret
end
section
variable {prog : Program} {w : World} {A : Around} {E : Value → Shared → Prop} {s : Shared} {t : Tok} {Q : Value → Shared → Prop}
theorem join_esc {D : Addr} {vs : List Value} {x : PySem.Str} (hl : s.heap.IsList D vs.toArray) (hi : StrsAre vs (x.cps.toList.map escOne)) (hx : x.length ≤ 1000)
    (h : ∀ t' k, Q (.str (esc x) t') { s with toks := k }) : wpAny (model prog w) A (call (.builtin "str.join") [.str (Str.ofString "") t, .ref D]) Q E s := by
  refine join_list hl (by simpa using hi) ?_ ?_
  · have h1 := sum_escOne x.cps.toList
    have h2 : (Str.ofString "").length = 0 := by decide +kernel
    have h3 : x.cps.toList.length = x.length := Array.length_toList
    rw [h2]
    omega
  · rw [join_nil, ← esc_eq]
    exact h
end
end
end Mine
namespace Mine
section
open PySem.Calls
theorem join_len (sep : PySem.Str) : ∀ (xs : List PySem.Str), (Str.join sep xs).length = (xs.map (·.length)).sum + (xs.length - 1) * sep.length
  | [] => by simp [Str.join, Str.empty, PySem.Str.length]
  | [x] => by simp [Str.join]
  | x :: y :: r => by
    show (x ++ sep ++ Str.join sep (y :: r)).length = _
    rw [Str.length_append, Str.length_append, join_len sep (y :: r)]
    simp only [List.map_cons, List.sum_cons, List.length_cons, Nat.add_sub_cancel]
    rw [Nat.add_mul]
    omega
theorem split_ne (x y : PySem.Str) : Txt.split x y ≠ [] := by
  unfold Txt.split
  split
  · simp
  · split
    · simp
    · rw [StrLaws.partsBetween_eq]
      obtain ⟨p, r, e⟩ := StrLaws.partsFrom_ne x y.length 0 (Builtin.Str.occurrences x y 0 x.length (x.length + 1))
      rw [e]; simp
theorem mem_le_sum : ∀ {xs : List Nat} {n : Nat}, n ∈ xs → n ≤ xs.sum
  | a :: r, n, h => by
    rw [List.sum_cons]
    rcases List.mem_cons.mp h with rfl | h
    · omega
    · have := mem_le_sum h; omega
structure Pieces (xs : List PySem.Str) : Prop where
  pos : 0 < xs.length
  sum : (xs.map (·.length)).sum ≤ 1000
  len : xs.length ≤ 1001
theorem Pieces.at {xs : List PySem.Str} (P : Pieces xs) {z : PySem.Str} (h : z ∈ xs) : z.length ≤ 1000 :=
  Nat.le_trans (mem_le_sum (List.mem_map_of_mem h)) P.sum
theorem pieces_of {x y : PySem.Str} (hy : (y.length == 0) = false) (hx : x.length ≤ 1000) : Pieces (Txt.split x y) := by
  have e := join_len y (Txt.split x y)
  rw [StrLaws.join_split] at e
  have hy' : 1 ≤ y.length := by
    have : y.length ≠ 0 := by simpa using hy
    omega
  have hm : (Txt.split x y).length - 1 ≤ ((Txt.split x y).length - 1) * y.length := Nat.le_mul_of_pos_right _ hy'
  have hp : 0 < (Txt.split x y).length := List.length_pos_iff.mpr (split_ne x y)
  exact ⟨hp, by omega, by omega⟩
section
variable {prog : Program} {w : World} {A : Around} {E : Value → Shared → Prop} {s : Shared} {h₀ : Heap} {L : Addr} {m : PySem.Str → Option Value} {news : List (Addr × Obj)} {x y : PySem.Str} {t u : Tok} {Q : Value → Shared → Prop}
theorem split_star (hF : Fr h₀ L s.heap m) (hN : News h₀ L s.heap news) (hy : (y.length == 0) = false) (hx : x.length ≤ 1000)
    (h : ∀ D vs h' k, StrsAre vs (Txt.split x y) → Pieces (Txt.split x y) → Fr h₀ L h' m → News h₀ L h' ((D, listOf vs.toArray 0) :: news) → (∀ p ∈ news, p.1 < D) → Q (.ref D) { s with heap := h', toks := k }) :
    wpAny (model prog w) A (call (.builtin "str.split") [.str x t, .str y u]) Q E s :=
  KSpl.split1 hF hN hy (fun D l h' k e a F N l1 => h D _ h' k (e ▸ a) (pieces_of hy hx) F N l1) (by rw [sizeLine_eq]; omega)
theorem len_strs {D : Addr} {vs : List Value} {xs : List PySem.Str} {c : Nat} (hN : News h₀ L s.heap news) (hm : (D, listOf vs.toArray c) ∈ news) (hi : StrsAre vs xs) (hx : xs.length ≤ 1001)
    (h : ∀ tk tk', Q (.int (xs.length : Nat) tk) { s with toks := tk' }) : wpAny (model prog w) A (call (.builtin "len") [.ref D]) Q E s := by
  have hl : s.heap.IsList D vs.toArray := News.isList hN hm
  have e : vs.toArray.size = xs.length := by simp [hi.length]
  refine Calls.call_len_list hl (by omega) ?_
  rw [e]
  exact h _ _
end
end
end Mine
namespace Mine
section
open PySem.Calls
def pieceOf (n k : Nat) (e : PySem.Str) : PySem.Str :=
  if k + 1 = n then Str.ofString ".*" ++ e else if k = 0 then e else Str.ofString "(?>.*?" ++ e ++ Str.ofString ")"
def dueAt (xs : List PySem.Str) : Nat → PySem.Str
  | 0 => Str.ofString ""
  | k + 1 => dueAt xs k ++ pieceOf xs.length k (esc (xs.getD k Str.empty))
theorem pieceOf_len (n k : Nat) (e : PySem.Str) : (pieceOf n k e).length ≤ e.length + 7 := by
  have h1 : (Str.ofString ".*").length = 2 := by decide +kernel
  have h2 : (Str.ofString "(?>.*?").length = 6 := by decide +kernel
  have h3 : (Str.ofString ")").length = 1 := by decide +kernel
  unfold pieceOf
  split
  · rw [Str.length_append, h1]; omega
  · split
    · omega
    · rw [Str.length_append, Str.length_append, h2, h3]; omega
theorem take_sum_le : ∀ (l : List Nat) (k : Nat), (l.take k).sum ≤ l.sum
  | [], k => by simp
  | a :: r, 0 => by simp
  | a :: r, k + 1 => by
    rw [List.take_succ_cons, List.sum_cons, List.sum_cons]
    have := take_sum_le r k
    omega
theorem dueAt_len (xs : List PySem.Str) : ∀ k, k ≤ xs.length → (dueAt xs k).length ≤ 2 * ((xs.map (·.length)).take k).sum + 7 * k
  | 0, _ => by
    have h : (Str.ofString "").length = 0 := by decide +kernel
    show (Str.ofString "").length ≤ _
    rw [h]; omega
  | k + 1, hk => by
    have ih := dueAt_len xs k (by omega)
    show (dueAt xs k ++ pieceOf xs.length k (esc (xs.getD k Str.empty))).length ≤ _
    rw [Str.length_append]
    have h1 := pieceOf_len xs.length k (esc (xs.getD k Str.empty))
    have h2 := esc_len (xs.getD k Str.empty)
    have h3 : ((xs.map (·.length)).take (k + 1)).sum = ((xs.map (·.length)).take k).sum + (xs.getD k Str.empty).length := by
      rw [List.take_add_one]
      have : (xs.map (·.length))[k]? = some (xs.getD k Str.empty).length := by
        rw [List.getElem?_map, List.getElem?_eq_getElem (by omega)]
        simp [List.getD, List.getElem?_eq_getElem (show k < xs.length by omega)]
      rw [this]
      simp
    rw [h3]
    omega
theorem Pieces.due {xs : List PySem.Str} (P : Pieces xs) {k : Nat} (hk : k ≤ xs.length) : (dueAt xs k).length ≤ 10000 := by
  have h1 := dueAt_len xs k hk
  have h2 := take_sum_le (xs.map (·.length)) k
  have h3 := P.sum
  have h4 := P.len
  omega
theorem Pieces.getD {xs : List PySem.Str} (P : Pieces xs) (k : Nat) : (xs.getD k Str.empty).length ≤ 1000 := by
  by_cases h : k < xs.length
  · have e : xs.getD k Str.empty = xs[k] := by simp [List.getD, h]
    rw [e]
    exact P.at (List.getElem_mem h)
  · have e : xs.getD k Str.empty = Str.empty := by simp [List.getD, h]
    rw [e]; simp [Str.empty, PySem.Str.length]
def kN : PySem.Str := Str.ofString "k"
def dueN : PySem.Str := Str.ofString "due"
def spN : PySem.Str := Str.ofString "spelled"
def DuePost (h₀ : Heap) (L : Addr) (m₀ : PySem.Str → Option Value) (led : List (Addr × Obj)) (s₁ : Shared) (d' : PySem.Str) (f : Flow) (s₂ : Shared) : Prop :=
  f = .next ∧ ∃ h' tk m' t, s₂ = { s₁ with heap := h', toks := tk } ∧ Fr h₀ L h' m' ∧ News h₀ L h' led ∧ m' (Str.ofString "due") = some (.str d' t) ∧ ∀ z, z ≠ Str.ofString "k" → z ≠ Str.ofString "due" → z ≠ Str.ofString "spelled" → m' z = m₀ z
theorem DuePost.intro {h₀ : Heap} {L : Addr} {m₀ m' : PySem.Str → Option Value} {led : List (Addr × Obj)} {s₁ : Shared} {d d' : PySem.Str} {t : Tok} {h' : Heap} {tk : Nat} (F : Fr h₀ L h' m') (N : News h₀ L h' led) (hm : m' (Str.ofString "due") = some (.str d t)) (e : d = d')
    (off : ∀ z, z ≠ Str.ofString "k" → z ≠ Str.ofString "due" → z ≠ Str.ofString "spelled" → m' z = m₀ z) : DuePost h₀ L m₀ led s₁ d' .next { s₁ with heap := h', toks := tk } := by
  subst e
  exact ⟨rfl, h', tk, m', t, rfl, F, N, hm, off⟩
theorem due_last {xs : List PySem.Str} {k : Nat} {d : PySem.Str} (hd : d = dueAt xs k) (h : (k : Int) = (xs.length : Int) - 1) : d ++ Str.ofString ".*" ++ esc (xs.getD k Str.empty) = dueAt xs (k + 1) := by
  subst hd
  show _ = dueAt xs k ++ pieceOf xs.length k (esc (xs.getD k Str.empty))
  rw [pieceOf, if_pos (by omega), Str.append_assoc]
theorem due_first {xs : List PySem.Str} {k : Nat} {d : PySem.Str} (hd : d = dueAt xs k) (h : ¬ (k : Int) = (xs.length : Int) - 1) (h0 : (k : Int) = 0) : d ++ esc (xs.getD k Str.empty) = dueAt xs (k + 1) := by
  subst hd
  show _ = dueAt xs k ++ pieceOf xs.length k (esc (xs.getD k Str.empty))
  rw [pieceOf, if_neg (by omega), if_pos (by omega)]
theorem due_mid {xs : List PySem.Str} {k : Nat} {d : PySem.Str} (hd : d = dueAt xs k) (h : ¬ (k : Int) = (xs.length : Int) - 1) (h0 : ¬ (k : Int) = 0) : d ++ (Str.ofString "(?>.*?" ++ esc (xs.getD k Str.empty) ++ Str.ofString ")") = dueAt xs (k + 1) := by
  subst hd
  show _ = dueAt xs k ++ pieceOf xs.length k (esc (xs.getD k Str.empty))
  rw [pieceOf, if_neg (by omega), if_neg (by omega)]
section
variable {prog : Program} {w : World} {A : Around} {E : Value → Shared → Prop} {s : Shared} {env : Env} {h₀ : Heap} {body : List Stmt} {Q : Flow → Shared → Prop}
theorem due_loop {r D : Addr} {t₀ u₀ v₀ : Tok} {m₀ : PySem.Str → Option Value} {vs : List Value} {xs : List PySem.Str} {c : Nat} {td : Tok}
    (hh : A.handled = none) (hi : StrsAre vs xs) (hP : Pieces xs) (hr : IsRange s.heap r 0 (xs.length : Nat) 1 t₀ u₀ v₀) (F : Fr h₀ env.locals s.heap m₀) (N : News h₀ env.locals s.heap [(D, listOf vs.toArray c)]) (hd : m₀ (Str.ofString "due") = some (.str (Str.ofString "") td))
    (turn : ∀ (k : Nat) (d : PySem.Str) kt dt (u : PySem.Str → Option Value) h tk own, k < xs.length → d = dueAt xs k → d.length ≤ 10000 → (xs.getD k Str.empty).length ≤ 1000 →
      Fr h₀ env.locals h (fun y => if y = Str.ofString "k" then some (.int (k : Nat) kt) else if y = Str.ofString "due" then some (.str d dt) else if y = Str.ofString "spelled" then u y else m₀ y) → News h₀ env.locals h ((D, listOf vs.toArray c) :: own) →
      wpAny (model prog w) A (execs body env) (DuePost h₀ env.locals m₀ ((D, listOf vs.toArray c) :: own) { s with heap := h, toks := tk } (dueAt xs (k + 1))) E { s with heap := h, toks := tk })
    (done : ∀ dt (u : PySem.Str → Option Value) h tk, Fr h₀ env.locals h (fun y => if y = Str.ofString "k" then u y else if y = Str.ofString "due" then some (.str (dueAt xs xs.length) dt) else if y = Str.ofString "spelled" then u y else m₀ y) → News h₀ env.locals h [(D, listOf vs.toArray c)] → Q .next { s with heap := h, toks := tk }) :
    wpAny (model prog w) A (pyIter (.ref r)) (fun it s₂ => LoopAtV prog w A h₀ env (Str.ofString "k") body Q E it s₂) E s := by
  have mapEq : ∀ (d : PySem.Str) (dt : Tok) (u : PySem.Str → Option Value) (v : Option Value), (fun y => if y = Str.ofString "k" then v else kstB (fun z => if [Str.ofString "spelled"].contains z then u z else m₀ z) [(Str.ofString "due", .str d dt)] y) =
      (fun y => if y = Str.ofString "k" then v else if y = Str.ofString "due" then some (.str d dt) else if y = Str.ofString "spelled" then u y else m₀ y) := by
    intro d dt u v
    funext y
    simp only [kstB, List.contains_cons, List.contains_nil, Bool.or_false, beq_iff_eq]
  have hn : Builtin.Range.rangeSize 0 (xs.length : Nat) 1 = ((xs.length : Nat) : Int) := rangeSize_nat _ _
  refine kst_range (σ := PySem.Str × Tok) (n := xs.length) (fun _ => [(D, listOf vs.toArray c)]) (fun c => [(Str.ofString "due", .str c.1 c.2)]) (fun _ => True) [Str.ofString "spelled"] (fun pre c => c.1 = dueAt xs pre.length) (Str.ofString "", td) hh hr ?_ hn F N trivial ?_ rfl ?_ ?_
  · have := hP.len
    exact small_one (by omega) (by omega) (by omega) (by omega)
  · intro p hp
    rw [List.mem_singleton.mp hp]
    exact hd
  · rintro ⟨d, dt⟩ pre k kt u h tk own hk hlt hoff _ hd' F' N'
    have ek : k = ((pre.length : Nat) : Int) := by omega
    subst ek
    have hd'' : d = dueAt xs pre.length := hd'
    have F'' : Fr h₀ env.locals h (fun y => if y = Str.ofString "k" then some (.int ((pre.length : Nat) : Int) kt) else if y = Str.ofString "due" then some (.str d dt) else if y = Str.ofString "spelled" then u y else m₀ y) := by
      have e := mapEq d dt u (some (.int ((pre.length : Nat) : Int) kt))
      rw [← e]; exact F'
    refine wpAny_mono (turn pre.length d kt dt u h tk own hlt hd'' (by rw [hd'']; exact hP.due (by omega)) (hP.getD _) F'' N') ?_ fun _ _ e => e
    rintro f s₂ ⟨rfl, h', tk', m', t, rfl, F₂, N₂, hm, hoff₂⟩
    show InvEndN _ _ _ _ _ _ _
    refine kst_end (c := ((dueAt xs (pre.length + 1), t) : PySem.Str × Tok)) F₂ N₂ (fun p hp => ?_) (fun p hp => List.mem_cons_of_mem _ hp) rfl trivial (fun p hp => ?_) (fun z hz hz' hz'' => ?_) ?_
    · rw [List.mem_singleton.mp hp]; exact List.mem_cons_self
    · rw [List.mem_singleton.mp hp]; exact hm
    · exact hoff₂ z hz (hz' _ (List.mem_singleton.mpr rfl)) (by simpa using hz'')
    · show dueAt xs (pre.length + 1) = dueAt xs (pre ++ [_]).length
      rw [List.length_append]; rfl
  · rintro ⟨d, dt⟩ u h tk _ hd' F' N'
    have hd'' : d = dueAt xs xs.length := by
      have e : d = dueAt xs (rangeKs 0 xs.length).length := hd'
      rwa [rangeKs_length] at e
    refine done dt u h tk ?_ N'
    have e := fun v => mapEq d dt u v
    rw [← hd'']
    have e2 : (fun y => if y = Str.ofString "k" then u y else kstB (fun z => if [Str.ofString "spelled"].contains z then u z else m₀ z) [(Str.ofString "due", .str d dt)] y) =
      (fun y => if y = Str.ofString "k" then u y else if y = Str.ofString "due" then some (.str d dt) else if y = Str.ofString "spelled" then u y else m₀ y) := by
      funext y
      exact congrFun (e (u y)) y
    rw [← e2]
    exact F'
theorem item_at {value slice : Expr} {l : Addr} {vs : List Value} {xs : List PySem.Str} {k : Nat} {u : Tok} {L : Addr} {c : Nat} {news : List (Addr × Obj)} {Q : Value → Shared → Prop} (N : News h₀ L s.heap news) (hm : (l, listOf vs.toArray c) ∈ news) (hi : StrsAre vs xs) (hP : Pieces xs) (hk : k < xs.length)
    (h : ∀ t', Q (.str (xs.getD k Str.empty) t') s)
    (hs : subscripted slice false (.ref l) (.int (k : Nat) u) = operate [.ref l, .int (k : Nat) u] (getItem (.ref l) (.int (k : Nat) u)) := by with_unfolding_all rfl) :
    wpAny (model prog w) A (subscriptTail value slice (.ref l) (.int (k : Nat) u)) Q E s := by
  have hl : s.heap.IsList l vs.toArray := News.isList N hm
  obtain ⟨t, ht⟩ := hi.get k xs[k] (by simp [hk])
  have e : xs.getD k Str.empty = xs[k] := by simp [List.getD, hk]
  have hlen := hP.len
  refine tail_any hl.typeIs slot_list_getitem.lookup (wpAny_getItem_list hl (by omega) (by omega) (by simpa using ht) ?_) hs
  rw [← e]; exact h t
end
end
end Mine
namespace Mine
section
open PySem.Calls
set_option maxRecDepth 100000
theorem map_owner : Manifest.owners.lookup (String.ofList ['p', 'a', 'm'].reverse) = some Manifest.sig_map := by kernel_rfl
theorem map_slot_next : Slot "map" "__next__" "map.__next__" :=
  .of (owner := "map") (n := "__next__") (by rw [typeLookup_type, builtinLookup_eq_fast]; kernel_rfl) (by decide +kernel) (by decide +kernel) (by decide +kernel)
    (by first | exact .inl (by decide +kernel) | exact .inr (by decide +kernel)) (by rw [isSubtype_type]; kernel_rfl)
theorem map_entry_next : entryFor table "map.__next__" = some Builtin.«map.__next__» := entryFor_of_tree (by kernel_rfl)
theorem map_args_next (a : Value) : argsOk "map.__next__" ⟨[a], []⟩ := by
  unfold argsOk; rw [signature?_of (id := "map.__next__") (n := ['_', '_', 't', 'x', 'e', 'n', '_', '_']) (o := ['p', 'a', 'm']) (by kernel_rfl) map_owner]; kernel_rfl
theorem map_slot_iter : Slot "map" "__iter__" "map.__iter__" :=
  .of (owner := "map") (n := "__iter__") (by rw [typeLookup_type, builtinLookup_eq_fast]; kernel_rfl) (by decide +kernel) (by decide +kernel) (by decide +kernel)
    (by first | exact .inl (by decide +kernel) | exact .inr (by decide +kernel)) (by rw [isSubtype_type]; kernel_rfl)
theorem map_args_iter (a : Value) : argsOk "map.__iter__" ⟨[a], []⟩ := by
  unfold argsOk; rw [signature?_of (id := "map.__iter__") (n := ['_', '_', 'r', 'e', 't', 'i', '_', '_']) (o := ['p', 'a', 'm']) (by kernel_rfl) map_owner]; kernel_rfl
theorem map_entry_iter : entryFor table "map.__iter__" = some Builtin.«dict_keyiterator.__iter__» :=
  entryFor_alias (id' := "dict_keyiterator.__iter__") (by kernel_rfl) (by first | rfl | decide +kernel | (unfold String.splitOn; simp +decide [String.splitOnAux])) (by decide +kernel) (by kernel_rfl)
theorem map_slot_init : Slot "map" "__init__" "object.__init__" :=
  .of (owner := "object") (n := "__init__") (by rw [typeLookup_type, builtinLookup_eq_fast]; kernel_rfl) (by decide +kernel) (by decide +kernel) (by decide +kernel)
    (by first | exact .inl (by decide +kernel) | exact .inr (by decide +kernel)) (by rw [isSubtype_type]; kernel_rfl)
theorem map_sub : isSubtype (.type "map") (.type "map") = pure true := by rw [isSubtype_type]; kernel_rfl
theorem map_mro : mroOf (.type "map") = pure [.type "map", .type "object"] := by rw [mroOf_type]; kernel_rfl
theorem map_lookup_new : typeLookup (.type "map") "__new__" = pure (some (.builtin "map.__new__")) := by rw [typeLookup_type, builtinLookup_eq_fast]; kernel_rfl
theorem map_called : TypeCalled "map" "map.__new__" "object.__init__" :=
  ⟨by decide +kernel, by decide +kernel, ⟨_, _, map_mro⟩, madeBy_type map_mro map_lookup_new (by decide +kernel), by decide +kernel, by rw [isSubtype_type]; kernel_rfl, map_slot_init⟩
theorem map_typeCall (a b : Value) : checkTypeCall "map" ⟨[a, b], []⟩ = pure () := by kernel_rfl
theorem map_newCall (a b : Value) : checkBuiltinCall "map.__new__" ⟨[.type "map", a, b], []⟩ = pure () := by kernel_rfl
theorem map_entry_new : entryFor table "map.__new__" = some Builtin.«map.__new__» := entryFor_of_tree (by kernel_rfl)
theorem map_no_len : typeLookup (.type "map") "__len__" = pure none := by rw [typeLookup_type, builtinLookup_eq_fast]; kernel_rfl
theorem map_no_hint : typeLookup (.type "map") "__length_hint__" = pure none := by rw [typeLookup_type, builtinLookup_eq_fast]; kernel_rfl
abbrev iterObj (D : Addr) (i : Nat) : Obj := { cls := .type "list_iterator", data := .fields #[.ref D, .int i 0] }
abbrev tupObj (I : Addr) : Obj := { cls := .type "tuple", data := .seq #[.ref I] }
abbrev mapObj (T f : Addr) : Obj := { cls := .type "map", data := .fields #[.ref T, .ref f] }
theorem meets_map_new (f l : Addr) (items : Array Value) (n : Nat) (dct : Option Addr) (sl : Array (Option Value)) :
    Meets (Builtin.«map.__new__» ⟨[.type "map", .ref f, .ref l], []⟩) (fun _ R s => s.heap.get? l = some { cls := .type "list", dict := dct, data := .seq items n, slots := sl } ∧
      R (.ok (.ret (.ref (s.heap.objs.size + 2))))
        { s with heap := ((s.heap.push (iterObj l 0)).push (tupObj s.heap.objs.size)).push (mapObj (s.heap.objs.size + 1) f) }) :=
  .of_wp fun prog w A R s h => by
    obtain ⟨hp, g, d, tk, os⟩ := s; obtain ⟨hl, h⟩ := h
    have hsub := map_sub
    have hL : Heap.IsList (Shared.heap ⟨hp, g, d, tk, os⟩) l items := ⟨_, hl, rfl, n, rfl⟩
    wp_walk using wpAny_loadPart' hl, wpAny_pyIter_list hL
    refine ⟨_, rfl, ?_⟩
    simp only [Heap.size_push]
    exact h
section
variable {prog : Program} {w : World} {A : Around} {E : Value → Shared → Prop} {s : Shared}
theorem call_map {f l : Addr} {items : Array Value} {Q : Value → Shared → Prop} (hL : s.heap.IsList l items)
    (h : ∀ h', h'.get? s.heap.objs.size = some (iterObj l 0) → h'.get? (s.heap.objs.size + 1) = some (tupObj s.heap.objs.size) → h'.get? (s.heap.objs.size + 2) = some (mapObj (s.heap.objs.size + 1) f) →
      (∀ b o, s.heap.get? b = some o → h'.get? b = some o) → Q (.ref (s.heap.objs.size + 2)) { s with heap := h' }) :
    wpAny (model prog w) A (call (.type "map") [.ref f, .ref l]) Q E s := by
  obtain ⟨⟨c, dct, dt, sl⟩, hl, hc, n, hd⟩ := hL
  replace hc : c = .type "list" := hc
  replace hd : dt = .seq items n := hd
  subst hc hd
  refine callType_new map_called (by decide) (map_typeCall _ _) (map_newCall _ _) (fun obj => F.args_object_init_3 obj _ _) map_entry_new
    (meets_map_new f l items n dct sl) ⟨hl, ?_⟩
  have z1 : (s.heap.push (iterObj l 0)).objs.size = s.heap.objs.size + 1 := Heap.size_push ..
  have z2 : ((s.heap.push (iterObj l 0)).push (tupObj s.heap.objs.size)).objs.size = s.heap.objs.size + 2 := by rw [Heap.size_push, z1]
  have g1 : (s.heap.push (iterObj l 0)).get? s.heap.objs.size = some (iterObj l 0) := Heap.get?_push_size _ rfl
  have g2 : ((s.heap.push (iterObj l 0)).push (tupObj s.heap.objs.size)).get? (s.heap.objs.size + 1) = some (tupObj s.heap.objs.size) := by
    have := Heap.get?_push_size (s.heap.push (iterObj l 0)) (o := tupObj s.heap.objs.size) rfl
    rwa [z1] at this
  have g3 : (((s.heap.push (iterObj l 0)).push (tupObj s.heap.objs.size)).push (mapObj (s.heap.objs.size + 1) f)).get? (s.heap.objs.size + 2) = some (mapObj (s.heap.objs.size + 1) f) := by
    have := Heap.get?_push_size ((s.heap.push (iterObj l 0)).push (tupObj s.heap.objs.size)) (o := mapObj (s.heap.objs.size + 1) f) rfl
    rwa [z2] at this
  exact ⟨⟨_, g3, rfl⟩, h _ (Heap.get?_push_of_some _ (Heap.get?_push_of_some _ g1)) (Heap.get?_push_of_some _ g2) g3 fun b o x => Heap.get?_push_of_some _ (Heap.get?_push_of_some _ (Heap.get?_push_of_some _ x))⟩
theorem map_next_item {M T I l f : Addr} {i : Nat} {items : Array Value} {x : Value} {Q : Value → Shared → Prop}
    (hM : s.heap.get? M = some (mapObj T f)) (hT : s.heap.get? T = some (tupObj I)) (hMI : M ≠ I) (hit : s.heap.IsListIter I l i) (hl : s.heap.IsList l items) (hx : items[i]? = some x)
    (h : ∀ h', h'.IsListIter I l (i + 1) → Heap.SameBut I s.heap h' → wpAny (model prog w) A (call (.ref f) [x]) Q E { s with heap := h' }) :
    wpAny (model prog w) A (Builtin.«map.__next__» ⟨[.ref M], []⟩) (fun fin s' => ∃ v, fin = .done (.ret v) ∧ Q v s') E s := by
  show wpAny _ _ (field (.ref M) 0 >>= _) _ _ _
  refine wpAny_bind (wpAny_field hM rfl (x := .ref T) rfl ?_)
  refine wpAny_bind (wpAny_seqItems hT rfl ?_)
  show wpAny _ _ ((forIn (#[Value.ref I] : Array Value) _ _) >>= _) _ _ _
  rw [← Array.forIn_toList]
  simp only [List.forIn_cons, List.forIn_nil]
  refine wpAny_bind (wpAny_bind (wpAny_bind (wpAny_holding (wpAny_nextOf_list_item hit hl hx fun h' hit' hs => ?_))))
  refine wpAny_pure (wpAny_pure (wpAny_bind ?_))
  refine wpAny_field (s := { s with heap := h' }) ((hs.2 M hMI).trans hM) rfl (x := .ref f) rfl ?_
  refine wpAny_bind (wpAny_holding (wpAny_mono (h h' hit' hs) (fun v s' hq => ?_) fun _ _ e => e))
  exact wpAny_bind (wpAny_letGo (wpAny_pure ⟨v, rfl, hq⟩))
theorem map_next_end {M T I l f : Addr} {i : Nat} {items : Array Value} {Q : PySem.Fin → Shared → Prop}
    (hh : A.handled = none) (hM : s.heap.get? M = some (mapObj T f)) (hT : s.heap.get? T = some (tupObj I)) (hit : s.heap.IsListIter I l i) (hl : s.heap.IsList l items) (hx : items[i]? = none)
    (hE : ∀ h' e, Heap.ExtBut I s.heap h' → (∃ o, h'.get? e = some o ∧ o.cls = .type "StopIteration") → E (.ref e) { s with heap := h' }) :
    wpAny (model prog w) A (Builtin.«map.__next__» ⟨[.ref M], []⟩) Q E s := by
  show wpAny _ _ (field (.ref M) 0 >>= _) _ _ _
  refine wpAny_bind (wpAny_field hM rfl (x := .ref T) rfl ?_)
  refine wpAny_bind (wpAny_seqItems hT rfl ?_)
  show wpAny _ _ ((forIn (#[Value.ref I] : Array Value) _ _) >>= _) _ _ _
  rw [← Array.forIn_toList]
  simp only [List.forIn_cons, List.forIn_nil]
  exact wpAny_bind (wpAny_bind (wpAny_bind (wpAny_holding (wpAny_nextOf_list_end hh hit hl hx hE))))
theorem map_pyNext_item {M T I l f : Addr} {i : Nat} {items : Array Value} {x : Value} {Q : Option Value → Shared → Prop}
    (hM : s.heap.get? M = some (mapObj T f)) (hT : s.heap.get? T = some (tupObj I)) (hMI : M ≠ I) (hit : s.heap.IsListIter I l i) (hl : s.heap.IsList l items) (hx : items[i]? = some x)
    (h : ∀ h' (E' : Value → Shared → Prop), h'.IsListIter I l (i + 1) → Heap.SameBut I s.heap h' → wpAny (model prog w) A.in1 (call (.ref f) [x]) (fun v s' => Q (some v) s') E' { s with heap := h' }) :
    wpAny (model prog w) A (pyNext (.ref M)) Q E s := by
  have hTy : s.TypeIs (.ref M) "map" := ⟨_, hM, rfl⟩
  unfold pyNext
  refine wpAny_bind (wpAny_attempt (wpAny_callSpecial?_slot (name := Str.ofString "__next__") hTy map_slot_next (wpAny_call_entry map_slot_next hTy map_entry_next ?_ (map_args_next _))))
  refine map_next_item hM hT hMI hit hl hx fun h' hit' hs => wpAny_mono (h h' _ hit' hs) (fun v s' hq => wpAny_pure hq) fun _ _ e => e
theorem map_pyNext_end {M T I l f : Addr} {i : Nat} {items : Array Value} {Q : Option Value → Shared → Prop}
    (hh : A.handled = none) (hM : s.heap.get? M = some (mapObj T f)) (hT : s.heap.get? T = some (tupObj I)) (hit : s.heap.IsListIter I l i) (hl : s.heap.IsList l items) (hx : items[i]? = none)
    (h : ∀ h', Heap.ExtBut I s.heap h' → Q none { s with heap := h' }) :
    wpAny (model prog w) A (pyNext (.ref M)) Q E s := by
  have hTy : s.TypeIs (.ref M) "map" := ⟨_, hM, rfl⟩
  unfold pyNext
  refine wpAny_bind (wpAny_attempt (wpAny_callSpecial?_slot (name := Str.ofString "__next__") hTy map_slot_next (wpAny_call_entry map_slot_next hTy map_entry_next ?_ (map_args_next _))))
  refine map_next_end hh hM hT hit hl hx fun h' e he ⟨o, ho, hc⟩ => ?_
  exact wpAny_bind (wpAny_isInstance (T := "StopIteration") (b := true) ⟨o, ho, hc⟩ isSubtype_stop (wpAny_pure (h h' he)))
end
end
end Mine
namespace Mine
section
open PySem.Calls
set_option maxRecDepth 100000
theorem strs_snoc1 {y : PySem.Str} {t : Tok} {vs : List Value} {ys : List PySem.Str} (h : StrsAre vs ys) : StrsAre (vs ++ [.str y t]) (ys ++ [y]) := kct_snoc h
theorem news_at {h₀ h h' : Heap} {L d : Addr} {o' : Obj} {rs : List (Addr × Obj)} (N : News h₀ L h rs) (off : ∀ p ∈ rs, p.1 ≠ d) (hs : ∀ b o, b ≠ d → h.get? b = some o → h'.get? b = some o) (hL : d ≠ L) (h0 : h₀.get? d = none) (hd : h'.get? d = some o') : News h₀ L h' ((d, o') :: rs) := by
  intro p hp
  rcases List.mem_cons.mp hp with rfl | hp
  · exact ⟨hd, hL, h0⟩
  · exact ⟨hs _ _ (off p hp) (N p hp).1, (N p hp).2⟩
section
variable {prog : Program} {w : World} {K : Frag} {p : Program} {loose : List PySem.Str} {mean : ExcName → Option Value} {mg mb : PySem.Str → Option Value} {f : Addr}
  {dp un : Nat} {gd : Option (List Code)} {cn : PySem.Str} {cs : Scope} {a : Addr} {ccd : Value} {cl : List (PySem.Str × Addr)} {outer : List Env} {A₀ : Around} {base h₀ : Heap} {L : Addr} {m : PySem.Str → Option Value}
theorem map_loop (C : SpellClaim prog w K p loose mean mg mb 1 8 f esc) (B : Below A₀ base outer h₀) (X : K.In h₀) (Tp : Top p loose mean mg mb h₀) (hk : cs.kind = .function) (hd : dp + 1 < recursionLimit) (hu : un + 20 < cLine)
    {vs : List Value} {xs : List PySem.Str} (hi : StrsAre vs xs) (hP : Pieces xs) {S M T I D : Addr} {cD : Nat} {rs : List (Addr × Obj)} (mM : (M, mapObj T f) ∈ rs) (mT : (T, tupObj I) ∈ rs) (mD : (D, listOf vs.toArray cD) ∈ rs)
    (offS : ∀ q ∈ rs, q.1 ≠ S) (offI : ∀ q ∈ rs, q.1 ≠ I) (hSI : S ≠ I) (res : Value) {R : Result → Shared → Prop} :
    ∀ (k i : Nat) (s : Shared) (acc : List Value) (c : Nat) (oI : Obj), xs.length - i = k → i ≤ xs.length → oI.cls = .type "list_iterator" → oI.data = .fields #[.ref D, .int i 0] →
      Fr h₀ L s.heap m → News h₀ L s.heap ((S, listOf acc.toArray c) :: (I, oI) :: rs) → StrsAre acc ((xs.take i).map esc) →
      (∀ ys h' tk' c', StrsAre ys (xs.map esc) → Fr h₀ L h' m → News h₀ L h' ((S, listOf ys.toArray c') :: rs) → R (.ok (.ret res)) { s with heap := h', toks := tk' }) →
      codeAny (model prog w) (ktrTop dp un gd cn cs L a ccd cl outer) (.builtin "list.extend.loop" ⟨[.ref S, .ref M, res], []⟩) R s := by
  intro k
  have hlenX := hP.len
  induction k with
  | zero =>
    intro i s acc c oI hk' hi' hc hdt F N hacc hR
    have hin : i = xs.length := by omega
    subst hin
    have NI := N (I, oI) (List.mem_cons_of_mem _ List.mem_cons_self)
    have NS := N (S, listOf acc.toArray c) List.mem_cons_self
    have Nr : News h₀ L s.heap rs := fun q hq => N q (List.mem_cons_of_mem _ (List.mem_cons_of_mem _ hq))
    have hlen : vs.length = xs.length := hi.length
    refine codeAny_builtin PySem.F.entry_extend_loop ?_
    rw [Around.under_plainId PySem.F.plain_extend_loop _]
    show wpAny _ _ (pyNext (.ref M) >>= _) _ _ s
    refine wpAny_bind (map_pyNext_end (i := xs.length) (items := vs.toArray) rfl (Nr _ mM).1 (Nr _ mT).1 ⟨oI, NI.1, hc, hdt⟩ (News.isList Nr mD) (by simp [hlen]) fun h' he => ?_)
    refine wpAny_pure (hR acc h' s.toks c (by rwa [List.take_length] at hacc) ?_ ?_)
    · obtain ⟨oL, a1, a2, hoL, a3⟩ := F.ns
      exact ⟨⟨oL, a1, a2, he L oL (Ne.symm NI.2.1) hoL, a3⟩, fun b o e => he b o (fun q => by rw [q, NI.2.2] at e; cases e) (F.keep b o e), F.above⟩
    · exact news_at (fun q hq => ⟨he _ _ (offI q hq) (Nr q hq).1, (Nr q hq).2⟩) offS (fun _ _ _ e => e) NS.2.1 NS.2.2 (he S _ hSI NS.1)
  | succ k ih =>
    intro i s acc c oI hk' hi' hc hdt F N hacc hR
    have hlt : i < xs.length := by omega
    have NI := N (I, oI) (List.mem_cons_of_mem _ List.mem_cons_self)
    have NS := N (S, listOf acc.toArray c) List.mem_cons_self
    have Nr : News h₀ L s.heap rs := fun q hq => N q (List.mem_cons_of_mem _ (List.mem_cons_of_mem _ hq))
    obtain ⟨t, ht⟩ := hi.get i xs[i] (by simp [hlt])
    refine codeAny_builtin PySem.F.entry_extend_loop ?_
    rw [Around.under_plainId PySem.F.plain_extend_loop _]
    show wpAny _ _ (pyNext (.ref M) >>= _) _ _ s
    refine wpAny_bind (map_pyNext_item (i := i) (items := vs.toArray) (x := .str xs[i] t) (Nr _ mM).1 (Nr _ mT).1 (offI _ mM) ⟨oI, NI.1, hc, hdt⟩ (News.isList Nr mD) (by simpa using ht) fun h₁ E' hit hs => ?_)
    obtain ⟨oI', heI, hcI, hdI⟩ := hit
    have F₁ : Fr h₀ L h₁ m := F.change hs NI.2.1 NI.2.2
    have N₁ : News h₀ L h₁ ((I, oI') :: rs) := news_at Nr offI (fun b o hb e => hs.extBut b o hb e) NI.2.1 NI.2.2 heI
    have N₁' : News h₀ L h₁ ((S, listOf acc.toArray c) :: (I, oI') :: rs) := by
      intro q hq
      rcases List.mem_cons.mp hq with rfl | hq
      · exact ⟨hs.extBut _ _ hSI NS.1, NS.2⟩
      · exact N₁ q hq
    have hx : xs[i].length ≤ 1000 := hP.at (List.getElem_mem hlt)
    show wpAny (model prog w) (ktrTop dp (un + 1 + 1) gd cn cs L a ccd cl outer) (call (.ref f) [.str xs[i] t]) _ _ _
    refine SpellClaim.use C (s := { s with heap := h₁ }) B F₁ X N₁' Tp hk hx hd (by omega) fun t' h₂ tk₂ _ F₂ N₂ => ?_
    have NS₂ := N₂ (S, listOf acc.toArray c) List.mem_cons_self
    have Nr₂ : News h₀ L h₂ ((I, oI') :: rs) := fun q hq => N₂ q (List.mem_cons_of_mem _ hq)
    have hal : acc.length = i := by
      have := hacc.length
      rw [this, List.length_map, List.length_take]; omega
    show wpAny _ _ (updateSeq S (·.push (Value.str (esc xs[i]) t')) >>= _) _ _ _
    refine wpAny_bind (wpAny_updateSeq (s := { s with heap := h₂, toks := tk₂ }) NS₂.1 rfl (wpAny_pure ⟨plainId_quiet PySem.F.plain_extend_loop _, ?_⟩) (by rw [sizeLine_eq, List.size_toArray]; omega) (by show (acc.toArray.push _).size ≤ _; rw [sizeLine_eq, Array.size_push, List.size_toArray]; omega))
    have hsb : Heap.SameBut S h₂ (h₂.update S (Obj.mapSeq (·.push (Value.str (esc xs[i]) t')))) := Heap.SameBut.update ..
    have hup := Heap.get?_update_self (Obj.mapSeq (·.push (Value.str (esc xs[i]) t'))) NS₂.1 rfl
    have hup' : ∃ c', (h₂.update S (Obj.mapSeq (·.push (Value.str (esc xs[i]) t')))).get? S = some (listOf (acc ++ [Value.str (esc xs[i]) t']).toArray c') := by
      refine ⟨c + 1, hup.trans ?_⟩
      simp [Obj.mapSeq]
    obtain ⟨c', hup''⟩ := hup'
    refine ih (i + 1) _ (acc ++ [Value.str (esc xs[i]) t']) c' oI' (by omega) hlt hcI hdI (F₂.change hsb NS₂.2.1 NS₂.2.2)
      (news_at Nr₂ (fun q hq => ?_) (fun b o hb e => hsb.extBut b o hb e) NS₂.2.1 NS₂.2.2 hup'') ?_ fun ys h' tk' c'' hy hF hN => hR ys h' tk' c'' hy hF hN
    · rcases List.mem_cons.mp hq with rfl | hq
      · exact Ne.symm hSI
      · exact offS q hq
    · rw [List.take_add_one, List.getElem?_eq_getElem hlt, Option.toList_some, List.map_append]
      exact strs_snoc1 hacc
end
section
variable {prog : Program} {w : World} {A : Around} {E : Value → Shared → Prop} {s : Shared}
theorem pyIter_map {M T f : Addr} {Q : Value → Shared → Prop} (hM : s.heap.get? M = some (mapObj T f)) (h : Q (.ref M) s) : wpAny (model prog w) A (pyIter (.ref M)) Q E s := by
  have hT : s.TypeIs (.ref M) "map" := ⟨_, hM, rfl⟩
  refine wpAny_pyIter_slot hT map_slot_iter (wpAny_call_entry map_slot_iter hT map_entry_iter ?_ (map_args_iter _))
  show wpAny _ _ (ret (.ref M)) _ _ s
  exact wpAny_pure ⟨_, rfl, "map", _, hT, map_slot_next.lookup, h⟩
end
section
variable {prog : Program} {w : World} {K : Frag} {p : Program} {loose : List PySem.Str} {mean : ExcName → Option Value} {mg mb : PySem.Str → Option Value} {f : Addr}
  {dp un : Nat} {gd : Option (List Code)} {cn : PySem.Str} {cs : Scope} {a : Addr} {ccd : Value} {cl : List (PySem.Str × Addr)} {outer : List Env} {A₀ : Around} {base h₀ : Heap} {L : Addr} {m : PySem.Str → Option Value} {s : Shared} {E : Value → Shared → Prop}
theorem map_init (C : SpellClaim prog w K p loose mean mg mb 1 8 f esc) (B : Below A₀ base outer h₀) (X : K.In h₀) (Tp : Top p loose mean mg mb h₀) (hk : cs.kind = .function) (hd : dp + 1 < recursionLimit) (hu : un + 20 < cLine)
    {vs : List Value} {xs : List PySem.Str} (hi : StrsAre vs xs) (hP : Pieces xs) {S M T I D : Addr} {cD : Nat} {oI : Obj} {rs : List (Addr × Obj)} (mM : (M, mapObj T f) ∈ rs) (mT : (T, tupObj I) ∈ rs) (mD : (D, listOf vs.toArray cD) ∈ rs)
    (offS : ∀ q ∈ rs, q.1 ≠ S) (offI : ∀ q ∈ rs, q.1 ≠ I) (hSI : S ≠ I) (hcI : oI.cls = .type "list_iterator") (hdI : oI.data = .fields #[.ref D, .int 0 0]) {R : Result → Shared → Prop}
    (F : Fr h₀ L s.heap m) (N : News h₀ L s.heap ((S, listOf #[] 0) :: (I, oI) :: rs))
    (hR : ∀ ys h' tk' c', StrsAre ys (xs.map esc) → Fr h₀ L h' m → News h₀ L h' ((S, listOf ys.toArray c') :: rs) → R (.ok (.ret .none)) { s with heap := h', toks := tk' }) :
    wpAny (model prog w) (ktrTop dp (un + 1) gd cn cs L a ccd cl outer) (Builtin.«list.__init__» ⟨[.ref S, .ref M], []⟩)
      (fun fin s' => match fin with | .done f => R (.ok f) s' | .again c' => c'.quiet = true ∧ codeAny (model prog w) (ktrTop dp un gd cn cs L a ccd cl outer) c' R s') (fun e s' => R (.error e) s') s := by
  show wpAny _ _ (do let old ← Builtin.List.listItems (.ref S); Builtin.List.listUpdate (.ref S) (fun _ => #[]); letGo old.toList.reverse; Builtin.List.listExtendWith (.ref S) (.ref M) .none) _ _ s
  have NS := N (S, listOf #[] 0) List.mem_cons_self
  have NI := N (I, oI) (List.mem_cons_of_mem _ List.mem_cons_self)
  have Nr : News h₀ L s.heap ((I, oI) :: rs) := fun q hq => N q (List.mem_cons_of_mem _ hq)
  have offS' : ∀ q ∈ (I, oI) :: rs, q.1 ≠ S := fun q hq => by
    rcases List.mem_cons.mp hq with rfl | hq
    · exact Ne.symm hSI
    · exact offS q hq
  refine wpAny_bind ?_
  unfold Builtin.List.listItems
  refine wpAny_bind (wpAny_seqItems NS.1 rfl (wpAny_pure ?_))
  show wpAny _ _ (updateSeq S (fun _ => #[]) >>= fun _ => letGo (#[] : Array Value).toList.reverse >>= fun _ => Builtin.List.listExtendWith (.ref S) (.ref M) .none) _ _ s
  refine wpAny_bind (wpAny_updateSeq NS.1 rfl ?_ (by decide) (by decide))
  refine wpAny_bind (wpAny_letGo ?_)
  have hsb : Heap.SameBut S s.heap (s.heap.update S (Obj.mapSeq (fun _ => (#[] : Array Value)))) := Heap.SameBut.update ..
  have hup : (s.heap.update S (Obj.mapSeq (fun _ => (#[] : Array Value)))).get? S = some (listOf #[] 0) := Heap.get?_update_self _ NS.1 rfl
  generalize s.heap.update S (Obj.mapSeq (fun _ => (#[] : Array Value))) = g at hsb hup
  have F₁ : Fr h₀ L g m := F.change hsb NS.2.1 NS.2.2
  have N₁ : News h₀ L g ((S, listOf #[] 0) :: (I, oI) :: rs) := news_at Nr offS' (fun b o hb e => hsb.extBut b o hb e) NS.2.1 NS.2.2 hup
  have Nr₁ : News h₀ L g rs := fun q hq => N₁ q (List.mem_cons_of_mem _ (List.mem_cons_of_mem _ hq))
  have hT : ({ s with heap := g } : Shared).TypeIs (.ref M) "map" := ⟨_, (Nr₁ _ mM).1, rfl⟩
  have hSM : S ≠ M := Ne.symm (offS _ mM)
  unfold Builtin.List.listExtendWith
  refine wpAny_bind (wpAny_typeOf hT ?_)
  have h1 : Builtin.List.listSameRef (.ref S) (.ref M) = false := by simp [Builtin.List.listSameRef, hSM]
  have h2 : (Value.type "map" == Value.type "list") = false := by decide
  have h3 : (Value.type "map" == Value.type "tuple") = false := by decide
  simp only [h1, h2, h3, Bool.or_false, Bool.false_eq_true, if_false]
  refine wpAny_bind (pyIter_map (Nr₁ _ mM).1 ?_)
  refine wpAny_bind (wpAny_holding ?_)
  unfold Builtin.List.listLengthHint
  refine wpAny_bind (wpAny_specialOf hT map_no_len ?_)
  show wpAny _ _ (specialOf (Value.ref M) (Str.ofString "__length_hint__") >>= _) _ _ _
  refine wpAny_bind (wpAny_specialOf hT map_no_hint ?_)
  refine wpAny_pure ?_
  show wpAny _ _ (rule "list.extend.makes-room" >>= fun _ => Builtin.List.listTouch (.ref S) >>= fun _ => again (.builtin "list.extend.loop" ⟨[.ref S, .ref M, .none], []⟩)) _ _ _
  refine wpAny_bind (wpAny_rule (wpAny_bind ?_))
  show wpAny _ _ (updateSeq S (·.push .none) >>= fun _ => updateSeq S (·.pop)) _ _ _
  refine wpAny_bind (wpAny_updateSeq (s := { s with heap := g }) hup rfl ?_ (by decide) (by decide))
  have hsb2 : Heap.SameBut S g (g.update S (Obj.mapSeq (·.push Value.none))) := Heap.SameBut.update ..
  have hup2 := Heap.get?_update_self (Obj.mapSeq (·.push Value.none)) hup rfl
  generalize g.update S (Obj.mapSeq (·.push Value.none)) = g2 at hsb2 hup2
  refine wpAny_updateSeq (s := { s with heap := g2 }) hup2 rfl ?_ (by decide) (by decide)
  have hsb3 : Heap.SameBut S g2 (g2.update S (Obj.mapSeq (·.pop))) := Heap.SameBut.update ..
  have hup3 := Heap.get?_update_self (Obj.mapSeq (·.pop)) hup2 rfl
  generalize g2.update S (Obj.mapSeq (·.pop)) = g3 at hsb3 hup3
  have hup4 : ∃ c, g3.get? S = some (listOf (([] : List Value).toArray) c) := ⟨_, hup3⟩
  obtain ⟨c, hup5⟩ := hup4
  have F₃ : Fr h₀ L g3 m := (F₁.change hsb2 NS.2.1 NS.2.2).change hsb3 NS.2.1 NS.2.2
  have N₃ : News h₀ L g3 ((S, listOf (([] : List Value).toArray) c) :: (I, oI) :: rs) := by
    refine news_at (h := g) (fun q hq => N₁ q (List.mem_cons_of_mem _ hq)) offS' (fun b o hb e => hsb3.extBut b o hb (hsb2.extBut b o hb e)) NS.2.1 NS.2.2 hup5
  refine wpAny_pure ⟨plainId_quiet PySem.F.plain_extend_loop _, ?_⟩
  exact map_loop C B X Tp hk hd hu hi hP mM mT mD offS offI hSI .none xs.length 0 _ [] c oI (by omega) (by omega) hcI hdI F₃ N₃ .nil hR
theorem call_list_map (C : SpellClaim prog w K p loose mean mg mb 1 8 f esc) (B : Below A₀ base outer h₀) (F : Fr h₀ L s.heap m) (X : K.In h₀) (Tp : Top p loose mean mg mb h₀) (hk : cs.kind = .function) (hd : dp + 1 < recursionLimit) (hu : un + 30 < cLine)
    {vs : List Value} {xs : List PySem.Str} (hi : StrsAre vs xs) (hP : Pieces xs) {M T I D : Addr} {cD : Nat} {oI : Obj} {rs : List (Addr × Obj)} {Q : Value → Shared → Prop} (mM : (M, mapObj T f) ∈ rs) (mT : (T, tupObj I) ∈ rs) (mD : (D, listOf vs.toArray cD) ∈ rs)
    (offI : ∀ q ∈ rs, q.1 ≠ I) (hcI : oI.cls = .type "list_iterator") (hdI : oI.data = .fields #[.ref D, .int 0 0]) (N : News h₀ L s.heap ((I, oI) :: rs))
    (h : ∀ S ys h' tk' c', StrsAre ys (xs.map esc) → Fr h₀ L h' m → News h₀ L h' ((S, listOf ys.toArray c') :: rs) → (∀ q ∈ rs, q.1 < S) → Q (.ref S) { s with heap := h', toks := tk' }) :
    wpAny (model prog w) (ktrTop dp un gd cn cs L a ccd cl outer) (call (.type "list") [.ref M]) Q E s := by
  have Nr : News h₀ L s.heap rs := fun q hq => N q (List.mem_cons_of_mem _ hq)
  have lt : ∀ q ∈ rs, q.1 < s.heap.objs.size := fun q hq => Heap.lt_size (Nr q hq).1
  have hI : I < s.heap.objs.size := Heap.lt_size (N _ List.mem_cons_self).1
  have hS : (s.heap.push { cls := .type "list", data := .seq #[] }).get? s.heap.objs.size = some { cls := .type "list", data := .seq #[] } := Heap.get?_push_size _ rfl
  refine callType_codes (Q₁ := fun obj s₁ => obj = .ref s.heap.objs.size ∧ s₁ = { s with heap := s.heap.push { cls := .type "list", data := .seq #[] } }) PySem.F.called_list (PySem.F.typeCall_list_1 _) PySem.F.entry_list_init
    (code_list_new _ ⟨rfl, rfl⟩) fun obj s₁ h₁ => ?_
  obtain ⟨rfl, rfl⟩ := h₁
  refine ⟨⟨_, hS, rfl⟩, PySem.F.args_list_init_2 _ _, ?_⟩
  have F₁ : Fr h₀ L (s.heap.push { cls := .type "list", data := .seq #[] }) m := F.keeps fun b o e => Heap.get?_push_of_some _ e
  have N₁ : News h₀ L (s.heap.push { cls := .type "list", data := .seq #[] }) ((s.heap.objs.size, listOf #[] 0) :: (I, oI) :: rs) :=
    news_at N (fun q hq => Nat.ne_of_lt (Heap.lt_size (N q hq).1)) (fun b o _ e => Heap.get?_push_of_some _ e) (Nat.ne_of_gt F.ns.lt) (none_at_size F) hS
  show wpAny (model prog w) (ktrTop dp (un + 1 + 1) gd cn cs L a ccd cl outer) _ _ _ _
  refine map_init (s := { s with heap := s.heap.push { cls := .type "list", data := .seq #[] } }) C B X Tp hk hd (by omega) hi hP mM mT mD (fun q hq => Nat.ne_of_lt (lt q hq)) offI (Nat.ne_of_gt hI) hcI hdI F₁ N₁ fun ys h' tk' c' hy hF hN => ?_
  exact ⟨rfl, h _ ys h' tk' c' hy hF hN lt⟩
end
end
end Mine
namespace Mine
section
open PySem.Calls
set_option maxRecDepth 100000
def wrap (e : PySem.Str) : PySem.Str := Str.ofString "(?>.*?" ++ e ++ Str.ofString ")"
/-- the j-th part when the parts 1 .. i - 1 are wrapped -/
def partOf (xs : List PySem.Str) (i j : Nat) : PySem.Str := if 1 ≤ j ∧ j < i then wrap (esc (xs.getD j Str.empty)) else esc (xs.getD j Str.empty)
def partsAt (xs : List PySem.Str) (i : Nat) : List PySem.Str := (List.range xs.length).map (partOf xs i)
/-- the parts at the end: the last one behind anything -/
def partsEnd (xs : List PySem.Str) : List PySem.Str := (partsAt xs (xs.length - 1)).set (xs.length - 1) (Str.ofString ".*" ++ esc (xs.getD (xs.length - 1) Str.empty))
theorem partsAt_len (xs : List PySem.Str) (i : Nat) : (partsAt xs i).length = xs.length := by simp [partsAt]
theorem partsAt_get {xs : List PySem.Str} {i j : Nat} (hj : j < xs.length) : (partsAt xs i)[j]? = some (partOf xs i j) := by
  simp [partsAt, hj]
theorem partsAt_one (xs : List PySem.Str) : partsAt xs 1 = xs.map esc := by
  apply List.ext_getElem?
  intro j
  by_cases hj : j < xs.length
  · rw [partsAt_get hj, List.getElem?_map, List.getElem?_eq_getElem hj]
    have : ¬ (1 ≤ j ∧ j < 1) := by omega
    rw [partOf, if_neg this]
    simp [List.getD, hj]
  · rw [List.getElem?_eq_none (by rw [partsAt_len]; omega), List.getElem?_eq_none (by rw [List.length_map]; omega)]
theorem partsAt_zero {xs : List PySem.Str} {i : Nat} (h : i ≤ 1) : partsAt xs i = partsAt xs 1 := by
  apply List.ext_getElem?
  intro j
  by_cases hj : j < xs.length
  · rw [partsAt_get hj, partsAt_get hj]
    have h1 : ¬ (1 ≤ j ∧ j < 1) := by omega
    have h2 : ¬ (1 ≤ j ∧ j < i) := by omega
    rw [partOf, partOf, if_neg h1, if_neg h2]
  · rw [List.getElem?_eq_none (by rw [partsAt_len]; omega), List.getElem?_eq_none (by rw [partsAt_len]; omega)]
theorem partsAt_set {xs : List PySem.Str} {i : Nat} (h1 : 1 ≤ i) (hi : i < xs.length) : (partsAt xs i).set i (wrap (esc (xs.getD i Str.empty))) = partsAt xs (i + 1) := by
  apply List.ext_getElem?
  intro j
  by_cases hj : j < xs.length
  · rw [List.getElem?_set, partsAt_get hj, partsAt_get hj, partsAt_len]
    by_cases e : i = j
    · subst e
      have : 1 ≤ i ∧ i < i + 1 := by omega
      simp [partOf, this, hi]
    · rw [if_neg e]
      have : (1 ≤ j ∧ j < i) ↔ (1 ≤ j ∧ j < i + 1) := by omega
      simp only [partOf, this]
  · rw [List.getElem?_eq_none (by rw [List.length_set, partsAt_len]; omega), List.getElem?_eq_none (by rw [partsAt_len]; omega)]
theorem partsEnd_len (xs : List PySem.Str) : (partsEnd xs).length = xs.length := by rw [partsEnd, List.length_set, partsAt_len]
theorem partsEnd_get {xs : List PySem.Str} {j : Nat} (hj : j < xs.length) : (partsEnd xs)[j]? = some (pieceOf xs.length j (esc (xs.getD j Str.empty))) := by
  rw [partsEnd, List.getElem?_set, partsAt_len, partsAt_get hj]
  by_cases e : xs.length - 1 = j
  · have e2 : j + 1 = xs.length := by omega
    rw [if_pos e, if_pos (by omega), pieceOf, if_pos e2, e]
  · rw [if_neg e, pieceOf, if_neg (by omega), partOf]
    by_cases h0 : j = 0
    · rw [if_pos h0, if_neg (by omega)]
    · rw [if_neg h0, if_pos (by omega), wrap]
theorem dueAt_flat (xs : List PySem.Str) : ∀ k, k ≤ xs.length → (dueAt xs k).cps.toList = ((partsEnd xs).take k).flatMap (·.cps.toList)
  | 0, _ => by
    show (Str.ofString "").cps.toList = _
    have : (Str.ofString "").cps.toList = [] := by decide +kernel
    rw [this]; simp
  | k + 1, hk => by
    have ih := dueAt_flat xs k (by omega)
    show (dueAt xs k ++ pieceOf xs.length k (esc (xs.getD k Str.empty))).cps.toList = _
    rw [Str.cps_append, Array.toList_append, ih, List.take_add_one, partsEnd_get (by omega)]
    simp
theorem join_parts_eq (xs : List PySem.Str) : Txt.join (Str.ofString "") (partsEnd xs) = dueAt xs xs.length := by
  rw [join_nil]
  apply Str.ext'
  apply Array.toList_inj.mp
  rw [dueAt_flat xs xs.length (Nat.le_refl _)]
  have : (partsEnd xs).take xs.length = partsEnd xs := List.take_of_length_le (Nat.le_of_eq (partsEnd_len xs))
  rw [this]
theorem partOf_len {xs : List PySem.Str} (P : Pieces xs) (i j : Nat) : (partOf xs i j).length ≤ 2010 := by
  have h1 := esc_len (xs.getD j Str.empty)
  have h2 := P.getD j
  have h3 : (Str.ofString "(?>.*?").length = 6 := by decide +kernel
  have h4 : (Str.ofString ")").length = 1 := by decide +kernel
  unfold partOf
  split
  · rw [wrap, Str.length_append, Str.length_append, h3, h4]; omega
  · omega
theorem sum_le_all {n : Nat} : ∀ {l : List Nat}, (∀ a ∈ l, a ≤ n) → l.sum ≤ n * l.length
  | [], _ => by simp
  | a :: r, h => by
    have h1 := h a List.mem_cons_self
    have h2 := sum_le_all (l := r) fun b hb => h b (List.mem_cons_of_mem _ hb)
    rw [List.sum_cons, List.length_cons, Nat.mul_add]; omega
theorem partsEnd_all {xs : List PySem.Str} (P : Pieces xs) : ∀ y ∈ partsEnd xs, y.length ≤ 2010 := by
  intro y hy
  obtain ⟨j, hj, e⟩ := List.getElem_of_mem hy
  rw [partsEnd_len] at hj
  have h := partsEnd_get hj
  rw [List.getElem?_eq_getElem (by rw [partsEnd_len]; exact hj)] at h
  have e2 : y = pieceOf xs.length j (esc (xs.getD j Str.empty)) := by rw [← e]; exact Option.some.inj h
  have h1 := pieceOf_len xs.length j (esc (xs.getD j Str.empty))
  have h2 := esc_len (xs.getD j Str.empty)
  have h3 := P.getD j
  rw [e2]; omega
theorem strs_set {y : PySem.Str} {u : Tok} : ∀ {vs : List Value} {ys : List PySem.Str}, StrsAre vs ys → ∀ j : Nat, StrsAre (vs.set j (.str y u)) (ys.set j y)
  | _, _, .nil, _ => .nil
  | _, _, .cons _ _ h, 0 => .cons y u h
  | _, _, .cons i t h, j + 1 => .cons i t (strs_set h j)
section
variable {prog : Program} {w : World} {A : Around} {E : Value → Shared → Prop} {s : Shared} {h₀ : Heap} {L D : Addr} {m : PySem.Str → Option Value} {news rs : List (Addr × Obj)} {vs : List Value} {xs : List PySem.Str} {c i : Nat} {t u : Tok}
theorem len_parts {Q : Value → Shared → Prop} (hN : News h₀ L s.heap news) (hm : (D, listOf vs.toArray c) ∈ news) (hi : StrsAre vs (partsAt xs i)) (hP : Pieces xs)
    (h : ∀ tk tk', Q (.int (xs.length : Nat) tk) { s with toks := tk' }) : wpAny (model prog w) A (call (.builtin "len") [.ref D]) Q E s := by
  have hl : s.heap.IsList D vs.toArray := News.isList hN hm
  have e : vs.toArray.size = xs.length := by simp [hi.length, partsAt_len]
  have := hP.len
  refine Calls.call_len_list hl (by omega) ?_
  rw [e]
  exact h _ _
theorem parts_at {value slice : Expr} {Q : Value → Shared → Prop} (N : News h₀ L s.heap news) (hm : (D, listOf vs.toArray c) ∈ news) (hi : StrsAre vs (partsAt xs i)) (hP : Pieces xs) (h1 : i < xs.length)
    (h : ∀ t', (esc (xs.getD i Str.empty)).length ≤ 2000 → Q (.str (esc (xs.getD i Str.empty)) t') s)
    (hs : subscripted slice false (.ref D) (.int (i : Nat) u) = operate [.ref D, .int (i : Nat) u] (getItem (.ref D) (.int (i : Nat) u)) := by with_unfolding_all rfl) :
    wpAny (model prog w) A (subscriptTail value slice (.ref D) (.int (i : Nat) u)) Q E s := by
  have hl : s.heap.IsList D vs.toArray := News.isList N hm
  have hlen := hP.len
  have e : partOf xs i i = esc (xs.getD i Str.empty) := by
    have : ¬ (1 ≤ i ∧ i < i) := by omega
    rw [partOf, if_neg this]
  obtain ⟨t, ht⟩ := hi.get i _ (partsAt_get (i := i) h1)
  rw [e] at ht
  refine tail_any hl.typeIs slot_list_getitem.lookup (wpAny_getItem_list hl (by omega) (by omega) (by simpa using ht) (h t ?_)) hs
  have h2 := esc_len (xs.getD i Str.empty)
  have h3 := hP.getD i
  omega
theorem parts_last {value slice : Expr} {Q : Value → Shared → Prop} (N : News h₀ L s.heap news) (hm : (D, listOf vs.toArray c) ∈ news) (hi : StrsAre vs (partsAt xs (xs.length - 1))) (hP : Pieces xs)
    (h : ∀ t', (esc (xs.getD (xs.length - 1) Str.empty)).length ≤ 2000 → Q (.str (esc (xs.getD (xs.length - 1) Str.empty)) t') s)
    (hs : subscripted slice false (.ref D) (.int (-1) u) = operate [.ref D, .int (-1) u] (getItem (.ref D) (.int (-1) u)) := by with_unfolding_all rfl) :
    wpAny (model prog w) A (subscriptTail value slice (.ref D) (.int (-1) u)) Q E s := by
  have hl : s.heap.IsList D vs.toArray := News.isList N hm
  have hlen := hP.len
  have hpos := hP.pos
  have hsz : vs.toArray.size = xs.length := by simp [hi.length, partsAt_len]
  have e : partOf xs (xs.length - 1) (xs.length - 1) = esc (xs.getD (xs.length - 1) Str.empty) := by
    have : ¬ (1 ≤ xs.length - 1 ∧ xs.length - 1 < xs.length - 1) := by omega
    rw [partOf, if_neg this]
  obtain ⟨t, ht⟩ := hi.get (xs.length - 1) _ (partsAt_get (i := xs.length - 1) (by omega))
  rw [e] at ht
  have hj : ((-1 : Int) + (vs.toArray.size : Nat)).toNat = xs.length - 1 := by rw [hsz]; omega
  refine tail_any hl.typeIs slot_list_getitem.lookup (wpAny_getItem_list_neg hl (by decide) (by rw [hsz]; omega) (by decide) (by rw [hj]; simpa using ht) (h t ?_)) hs
  have h2 := esc_len (xs.getD (xs.length - 1) Str.empty)
  have h3 := hP.getD (xs.length - 1)
  omega
theorem parts_set {v : PySem.Str} {Q : Unit → Shared → Prop} (F : Fr h₀ L s.heap m) (N : News h₀ L s.heap ((D, listOf vs.toArray c) :: rs)) (off : ∀ p ∈ rs, p.1 ≠ D) (hi : StrsAre vs (partsAt xs i)) (hP : Pieces xs) (h0 : 1 ≤ i) (h1 : i < xs.length) (hv : v = wrap (esc (xs.getD i Str.empty)))
    (h : ∀ h' vs', StrsAre vs' (partsAt xs (i + 1)) → Fr h₀ L h' m → News h₀ L h' ((D, listOf vs'.toArray c) :: rs) → Q () { s with heap := h' }) :
    wpAny (model prog w) A (setItem (.ref D) (.int (i : Nat) t) (.str v u)) Q E s := by
  subst hv
  have NS := N _ List.mem_cons_self
  have hlen := hP.len
  have hsz : vs.toArray.size = xs.length := by simp [hi.length, partsAt_len]
  refine ki_setAt NS.1 (by omega) (by omega) (by omega) ?_
  have hsb : Heap.SameBut D s.heap (s.heap.update D (Obj.mapSeq (·.setIfInBounds ((i : Int)).toNat (Value.str (wrap (esc (xs.getD i Str.empty))) u)))) := Heap.SameBut.update ..
  have hup := Heap.get?_update_self (Obj.mapSeq (·.setIfInBounds ((i : Int)).toNat (Value.str (wrap (esc (xs.getD i Str.empty))) u))) NS.1 rfl
  refine h _ (vs.set i (.str (wrap (esc (xs.getD i Str.empty))) u)) ?_ (F.change hsb NS.2.1 NS.2.2) (news_at (fun q hq => N q (List.mem_cons_of_mem _ hq)) off (fun b o hb e => hsb.extBut b o hb e) NS.2.1 NS.2.2 (hup.trans ?_))
  · rw [← partsAt_set h0 h1]
    exact strs_set hi i
  · simp [Obj.mapSeq]
theorem parts_setLast {v : PySem.Str} {Q : Unit → Shared → Prop} (F : Fr h₀ L s.heap m) (N : News h₀ L s.heap ((D, listOf vs.toArray c) :: rs)) (off : ∀ p ∈ rs, p.1 ≠ D) (hi : StrsAre vs (partsAt xs (xs.length - 1))) (hP : Pieces xs) (hv : v = Str.ofString ".*" ++ esc (xs.getD (xs.length - 1) Str.empty))
    (h : ∀ h' vs', StrsAre vs' (partsEnd xs) → Fr h₀ L h' m → News h₀ L h' ((D, listOf vs'.toArray c) :: rs) → Q () { s with heap := h' }) :
    wpAny (model prog w) A (setItem (.ref D) (.int (-1) t) (.str v u)) Q E s := by
  subst hv
  have NS := N _ List.mem_cons_self
  have hlen := hP.len
  have hpos := hP.pos
  have hsz : vs.toArray.size = xs.length := by simp [hi.length, partsAt_len]
  have hj : ((-1 : Int) + (vs.toArray.size : Nat)).toNat = xs.length - 1 := by rw [hsz]; omega
  refine ki_setBack NS.1 (by decide) (by rw [hsz]; omega) (by decide) ?_
  rw [hj]
  have hsb : Heap.SameBut D s.heap (s.heap.update D (Obj.mapSeq (·.setIfInBounds (xs.length - 1) (Value.str (Str.ofString ".*" ++ esc (xs.getD (xs.length - 1) Str.empty)) u)))) := Heap.SameBut.update ..
  have hup := Heap.get?_update_self (Obj.mapSeq (·.setIfInBounds (xs.length - 1) (Value.str (Str.ofString ".*" ++ esc (xs.getD (xs.length - 1) Str.empty)) u))) NS.1 rfl
  refine h _ (vs.set (xs.length - 1) (.str (Str.ofString ".*" ++ esc (xs.getD (xs.length - 1) Str.empty)) u)) (strs_set hi _) (F.change hsb NS.2.1 NS.2.2) (news_at (fun q hq => N q (List.mem_cons_of_mem _ hq)) off (fun b o hb e => hsb.extBut b o hb e) NS.2.1 NS.2.2 (hup.trans ?_))
  simp [Obj.mapSeq]
theorem join_parts {Q : Value → Shared → Prop} (hN : News h₀ L s.heap news) (hm : (D, listOf vs.toArray c) ∈ news) (hi : StrsAre vs (partsEnd xs)) (hP : Pieces xs)
    (h : ∀ t' k, Q (.str (dueAt xs xs.length) t') { s with toks := k }) : wpAny (model prog w) A (call (.builtin "str.join") [.str (Str.ofString "") t, .ref D]) Q E s := by
  have hl : s.heap.IsList D vs.toArray := News.isList hN hm
  refine join_list hl (by simpa using hi) ?_ ?_
  · have h2 : (Str.ofString "").length = 0 := by decide +kernel
    have h3 : ((partsEnd xs).map (·.length)).sum ≤ 2010 * ((partsEnd xs).map (·.length)).length := sum_le_all fun a ha => by
      obtain ⟨y, hy, rfl⟩ := List.mem_map.mp ha
      exact partsEnd_all hP y hy
    rw [List.length_map, partsEnd_len] at h3
    have := hP.len
    rw [h2, Nat.mul_zero]
    omega
  · rw [join_parts_eq]
    exact h
end
end
end Mine
namespace Mine
section
open PySem.Calls
set_option maxRecDepth 100000
def PartPost (h₀ : Heap) (L : Addr) (m₀ : PySem.Str → Option Value) (xs : List PySem.Str) (i : Nat) (D : Addr) (c : Nat) (rs : List (Addr × Obj)) (s₁ : Shared) (f : Flow) (s₂ : Shared) : Prop :=
  f = .next ∧ ∃ h' tk vs' m', s₂ = { s₁ with heap := h', toks := tk } ∧ Fr h₀ L h' m' ∧ News h₀ L h' ((D, listOf vs'.toArray c) :: rs) ∧ StrsAre vs' (partsAt xs i) ∧ ∀ z, z ≠ Str.ofString "i" → m' z = m₀ z
theorem PartPost.intro {h₀ : Heap} {L : Addr} {m₀ m' : PySem.Str → Option Value} {xs : List PySem.Str} {i : Nat} {D : Addr} {c : Nat} {rs : List (Addr × Obj)} {s₁ : Shared} {vs' : List Value} {h' : Heap} {tk : Nat} (F : Fr h₀ L h' m') (N : News h₀ L h' ((D, listOf vs'.toArray c) :: rs)) (hi : StrsAre vs' (partsAt xs i))
    (off : ∀ z, z ≠ Str.ofString "i" → m' z = m₀ z) : PartPost h₀ L m₀ xs i D c rs s₁ .next { s₁ with heap := h', toks := tk } := ⟨rfl, h', tk, vs', m', rfl, F, N, hi, off⟩
section
variable {prog : Program} {w : World} {A : Around} {E : Value → Shared → Prop} {s : Shared} {env : Env} {h₀ : Heap} {body : List Stmt} {Q : Flow → Shared → Prop}
theorem parts_loop {r D : Addr} {t₀ u₀ v₀ : Tok} {m₀ : PySem.Str → Option Value} {vs : List Value} {xs : List PySem.Str} {c : Nat} {rs : List (Addr × Obj)}
    (hh : A.handled = none) (hi : StrsAre vs (partsAt xs 1)) (hP : Pieces xs) (hr : IsRange s.heap r 1 ((xs.length : Nat) - 1) 1 t₀ u₀ v₀) (F : Fr h₀ env.locals s.heap m₀) (N : News h₀ env.locals s.heap ((D, listOf vs.toArray c) :: rs)) (off : ∀ p ∈ rs, p.1 ≠ D)
    (turn : ∀ (i : Nat) vs' it h tk rs', 1 ≤ i → i < xs.length → StrsAre vs' (partsAt xs i) → (∀ p ∈ rs', p.1 ≠ D) →
      Fr h₀ env.locals h (fun y => if y = Str.ofString "i" then some (.int (i : Nat) it) else m₀ y) → News h₀ env.locals h ((D, listOf vs'.toArray c) :: rs') →
      wpAny (model prog w) A (execs body env) (PartPost h₀ env.locals m₀ xs (i + 1) D c rs' { s with heap := h, toks := tk }) E { s with heap := h, toks := tk })
    (done : ∀ vs' (u : PySem.Str → Option Value) h tk, StrsAre vs' (partsAt xs (xs.length - 1)) → Fr h₀ env.locals h (fun y => if y = Str.ofString "i" then u y else m₀ y) → News h₀ env.locals h ((D, listOf vs'.toArray c) :: rs) → Q .next { s with heap := h, toks := tk }) :
    wpAny (model prog w) A (pyIter (.ref r)) (fun it s₂ => LoopAtV prog w A h₀ env (Str.ofString "i") body Q E it s₂) E s := by
  have mapEq : ∀ (u : PySem.Str → Option Value) (v : PySem.Str → Option Value), (fun y => if y = Str.ofString "i" then v y else kstB (fun z => if ([] : List PySem.Str).contains z then u z else m₀ z) [] y) =
      (fun y => if y = Str.ofString "i" then v y else m₀ y) := by
    intro u v
    funext y
    simp [kstB]
  have hlen := hP.len
  have hpos := hP.pos
  have hn : Builtin.Range.rangeSize 1 ((xs.length : Nat) - 1) 1 = ((xs.length - 2 : Nat) : Int) := by rw [rangeSize_nat]; omega
  refine kst_range (σ := List Value) (n := xs.length - 2) (fun vs' => (D, listOf vs'.toArray c) :: rs) (fun _ => []) (fun _ => True) [] (fun pre vs' => StrsAre vs' (partsAt xs (1 + pre.length))) vs hh hr (small_one (by omega) (by omega) (by omega) (by omega)) hn F N trivial (fun p hp => nomatch hp) hi ?_ ?_
  · intro vs' pre k kt u h tk own hk hlt hoff _ hv F' N'
    have ek : k = ((1 + pre.length : Nat) : Int) := by omega
    subst ek
    have off' : ∀ p ∈ rs ++ own, p.1 ≠ D := by
      intro p hp
      rcases List.mem_append.mp hp with hp | hp
      · exact off p hp
      · exact hoff p hp D List.mem_cons_self
    have F'' : Fr h₀ env.locals h (fun y => if y = Str.ofString "i" then some (.int ((1 + pre.length : Nat) : Int) kt) else m₀ y) := by
      have e := mapEq u (fun _ => some (.int ((1 + pre.length : Nat) : Int) kt))
      rw [← e]; exact F'
    refine wpAny_mono (turn (1 + pre.length) vs' kt h tk (rs ++ own) (by omega) (by omega) hv off' F'' N') ?_ fun _ _ e => e
    rintro f s₂ ⟨rfl, h', tk', vs'', m', rfl, F₂, N₂, hv', hoff₂⟩
    show InvEndN _ _ _ _ _ _ _
    refine kst_end (c := (vs'' : List Value)) F₂ N₂ (fun p hp => ?_) (fun p hp => List.mem_cons_of_mem _ (List.mem_append.mpr (.inr hp))) rfl trivial (fun p hp => nomatch hp) (fun z hz _ _ => hoff₂ z hz) ?_
    · rcases List.mem_cons.mp hp with rfl | hp
      · exact List.mem_cons_self
      · exact List.mem_cons_of_mem _ (List.mem_append.mpr (.inl hp))
    · show StrsAre vs'' (partsAt xs (1 + (pre ++ [_]).length))
      rw [List.length_append]
      exact hv'
  · intro vs' u h tk _ hv F' N'
    have hv' : StrsAre vs' (partsAt xs (1 + (rangeKs 1 (xs.length - 2)).length)) := hv
    rw [rangeKs_length] at hv'
    refine done vs' u h tk ?_ ?_ N'
    · by_cases h1 : xs.length = 1
      · rw [partsAt_zero (by omega), ← partsAt_zero (xs := xs) (i := 1 + (xs.length - 2)) (by omega)]
        exact hv'
      · have e : 1 + (xs.length - 2) = xs.length - 1 := by omega
        rwa [e] at hv'
    · have e := mapEq u u
      rw [← e]
      exact F'
end
section
variable {prog : Program} {w : World} {A : Around} {E : Value → Shared → Prop} {s : Shared} {h₀ : Heap} {L : Addr} {m : PySem.Str → Option Value} {news : List (Addr × Obj)}
theorem map_K {f D : Addr} {vs : List Value} {c : Nat} {Q : Value → Shared → Prop} (F : Fr h₀ L s.heap m) (N : News h₀ L s.heap news) (hm : (D, listOf vs.toArray c) ∈ news)
    (h : ∀ I T M h', Fr h₀ L h' m → News h₀ L h' ((I, iterObj D 0) :: (M, mapObj T f) :: (T, tupObj I) :: news) → (∀ p ∈ ((M, mapObj T f) :: (T, tupObj I) :: news), p.1 ≠ I) → Q (.ref M) { s with heap := h' }) :
    wpAny (model prog w) A (call (.type "map") [.ref f, .ref D]) Q E s := by
  refine call_map (News.isList N hm) fun h' g1 g2 g3 hk => ?_
  have lt : ∀ p ∈ news, p.1 < s.heap.objs.size := fun p hp => Heap.lt_size (N p hp).1
  have none : ∀ a, s.heap.objs.size ≤ a → h₀.get? a = none := fun a ha => Heap.get?_none_of_le (Nat.le_trans (Nat.le_of_lt (Nat.lt_of_le_of_lt F.above F.ns.lt)) ha)
  have hL := F.ns.lt
  refine h s.heap.objs.size (s.heap.objs.size + 1) (s.heap.objs.size + 2) h' (F.keeps hk) (fun p hp => ?_) (fun p hp => ?_)
  · rcases List.mem_cons.mp hp with rfl | hp
    · exact ⟨g1, Nat.ne_of_gt hL, none _ (Nat.le_refl _)⟩
    · rcases List.mem_cons.mp hp with rfl | hp
      · exact ⟨g3, Nat.ne_of_gt (Nat.lt_of_lt_of_le hL (Nat.le_add_right _ 2)), none _ (Nat.le_add_right _ 2)⟩
      · rcases List.mem_cons.mp hp with rfl | hp
        · exact ⟨g2, Nat.ne_of_gt (Nat.lt_of_lt_of_le hL (Nat.le_add_right _ 1)), none _ (Nat.le_add_right _ 1)⟩
        · exact ⟨hk _ _ (N p hp).1, (N p hp).2⟩
  · rcases List.mem_cons.mp hp with rfl | hp
    · exact Nat.ne_of_gt (Nat.lt_add_of_pos_right (by decide))
    · rcases List.mem_cons.mp hp with rfl | hp
      · exact Nat.ne_of_gt (Nat.lt_succ_self _)
      · exact Nat.ne_of_lt (lt p hp)
end
section
variable {prog : Program} {w : World} {K : Frag} {p : Program} {loose : List PySem.Str} {mean : ExcName → Option Value} {mg mb : PySem.Str → Option Value} {f : Addr}
  {dp un : Nat} {gd : Option (List Code)} {cn : PySem.Str} {cs : Scope} {a : Addr} {ccd : Value} {cl : List (PySem.Str × Addr)} {outer : List Env} {A₀ : Around} {base h₀ : Heap} {L : Addr} {m : PySem.Str → Option Value} {s : Shared} {E : Value → Shared → Prop}
/-- the ledger that list(map(f, D)) leaves: the new list alone ahead of what stood -/
theorem list_map_K (C : SpellClaim prog w K p loose mean mg mb 1 8 f esc) (B : Below A₀ base outer h₀) (F : Fr h₀ L s.heap m) (X : K.In h₀) (Tp : Top p loose mean mg mb h₀) (hk : cs.kind = .function) (hd : dp + 1 < recursionLimit) (hu : un + 30 < cLine)
    {M T I D : Addr} {news : List (Addr × Obj)} {Q : Value → Shared → Prop} (N : News h₀ L s.heap ((I, iterObj D 0) :: (M, mapObj T f) :: (T, tupObj I) :: news)) (offI : ∀ q ∈ ((M, mapObj T f) :: (T, tupObj I) :: news), q.1 ≠ I)
    {vs : List Value} {xs : List PySem.Str} {cD : Nat} (mD : (D, listOf vs.toArray cD) ∈ news) (hi : StrsAre vs xs) (hP : Pieces xs)
    (h : ∀ S ys h' tk' c', StrsAre ys (partsAt xs 1) → Fr h₀ L h' m → News h₀ L h' ((S, listOf ys.toArray c') :: news) → (∀ q ∈ news, q.1 ≠ S) → Q (.ref S) { s with heap := h', toks := tk' }) :
    wpAny (model prog w) (ktrTop dp un gd cn cs L a ccd cl outer) (call (.type "list") [.ref M]) Q E s := by
  refine call_list_map C B F X Tp hk hd hu hi hP (rs := (M, mapObj T f) :: (T, tupObj I) :: news) List.mem_cons_self (List.mem_cons_of_mem _ List.mem_cons_self) (List.mem_cons_of_mem _ (List.mem_cons_of_mem _ mD)) offI rfl rfl N fun S ys h' tk' c' hy hF hN lt => ?_
  refine h S ys h' tk' c' (by rw [partsAt_one]; exact hy) hF (fun q hq => ?_) fun q hq => Nat.ne_of_lt (lt q (List.mem_cons_of_mem _ (List.mem_cons_of_mem _ hq)))
  rcases List.mem_cons.mp hq with rfl | hq
  · exact hN _ List.mem_cons_self
  · exact hN q (List.mem_cons_of_mem _ (List.mem_cons_of_mem _ (List.mem_cons_of_mem _ hq)))
end
end
end Mine
namespace Mine
section
set_option maxRecDepth 100000
set_option maxHeartbeats 8000000
open_top hd for PySem.Challenge.rw_xb0009_01
end
end Mine
namespace Mine
section
theorem gm_translate {M : Model} {A : Around} {E : Value → Shared → Prop} {s : Shared} {x : PySem.Str} {t : Tok} {pl : Sem Bool} {Q : Value × List Value → Shared → Prop} (h : Q (.builtin "str.translate", [.str x t]) s) : wpAny M A (getMethod (.str x t) "translate" pl) Q E s := by
  with_reducible exact GM.of (.str x t) (typeIs_str _ _ _) F.slot_str_translate F.type_str_translate GM.noRef h
theorem all_ne {news : List (Addr × Obj)} {L : Addr} (l : ∀ p ∈ news, p.1 < L) : ∀ p ∈ news, p.1 ≠ L + 1 := fun p hp e => by
  have := l p hp
  rw [e] at this
  exact absurd this (by show ¬ (L + 1 < L); exact Nat.not_lt.mpr (Nat.le_succ L))
local macro_rules | `(tactic| k_updF) => `(tactic| (refine' UpdF.head ?a; (case a => exact all_ne (by with_reducible assumption))))
local macro_rules | `(tactic| walk_at "getMethod str") => `(tactic| with_reducible refine gm_translate ?_)
local macro_rules | `(tactic| walk_at "call builtin:str.translate") => `(tactic| (k_here; k_dflt (refine' tr_K ?k1 ?k2 ?k3 ?k4 ?k5 ?k6 ?k7 ?k8 ?_; (case k1 => k_asm); (case k2 => k_asm); (case k3 => k_asm); (case k4 => k_is); (case k5 => decide +kernel); (case k6 => rfl); (case k7 => decide); (case k8 => with_reducible assumption); k_whole; intro t' h' tk' F' N')))
local macro_rules | `(tactic| walk_at "eval ListComp") => `(tactic| (k_here; (with_reducible show wpAny _ _ (eval (Expr.ListComp (Expr.IfExp _ _ _ _) _ _ _) _) _ _ _); k_dflt (refine ListComp_S (by k_asm) (by with_unfolding_all rfl) (by decide) (by rfl) (by decide) (by rfl) ?_)))
local macro_rules | `(tactic| walk_at "SrcS") => `(tactic| (k_here; k_dflt (refine' SrcS.of escOne ?k1 ?k2 ?k3 ?k4 (fun g' c' t' I' oI' C' oC' D' m' ys' h' tk' E' hc' hC' hx' F' N' off' ne' => ?_) (fun g' ys' hys' => ?_); (case k1 => rfl); (case k2 => k_asm); (case k3 => k_asm); (case k4 => with_reducible assumption))))
local macro_rules | `(tactic| walk_at "CompEnd") => `(tactic| (k_here; refine LCg.CompEnd.intro (by with_reducible assumption) (by with_reducible assumption) _ (fun _ h => h) (by with_reducible assumption) trivial ?_))
local macro_rules | `(tactic| walk_at "KCtEl") => `(tactic| first | exact kct_at (one_no (by with_reducible assumption)) | exact kct_at (one_yes (by with_reducible assumption)))
local macro_rules | `(tactic| walk_at "call builtin:str.join") => `(tactic| (k_here; (with_reducible show wpAny _ _ (call (Value.builtin "str.join") [Value.str _ _, Value.ref _]) _ _ _); k_dflt (refine' join_esc ?k1 ?k2 ?k3 ?_; (case k1 => exact News.isList (by k_asm) (by k_mem)); (case k2 => with_reducible assumption); (case k3 => with_reducible assumption); k_whole); intro t' tk'))
def tp (x : PySem.Str) : PySem.Str := dueAt (Txt.split x (Str.ofString "*")) (Txt.split x (Str.ofString "*")).length
local macro_rules | `(tactic| walk_at "call ref") => `(tactic| (k_here; (with_reducible show wpAny _ _ (call (Value.ref _) [Value.str _ _]) _ _ _); k_dflt (refine' SpellClaim.use0 ?c ?k1 ?k2 ?k3 ?k4 ?k5 ?k6 ?k7 ?k8 ?k9 ?_; (case c => with_reducible assumption); (case k1 => k_asm); (case k2 => k_asm); (case k3 => k_asm); (case k4 => k_asm); (case k5 => k_asm); (case k6 => rfl); (case k7 => first | with_reducible assumption | omega | l_fact); (case k8 => ktr_room); (case k9 => ktr_units); intro t' h' tk' F' N'; (try dsimp only))))
local macro_rules | `(tactic| walk_at "call ref") => `(tactic| (k_here; (with_reducible show wpAny _ _ (call (Value.ref _) [Value.str _ _]) _ _ _); k_dflt (refine' SpellClaim.use ?c ?k1 ?k2 ?k3 ?k4 ?k5 ?k6 ?k7 ?k8 ?k9 ?_; (case c => with_reducible assumption); (case k1 => k_asm); (case k2 => k_asm); (case k3 => k_asm); (case k4 => k_asm); (case k5 => k_asm); (case k6 => rfl); (case k7 => first | with_reducible assumption | omega | l_fact); (case k8 => ktr_room); (case k9 => ktr_units); intro t' h' tk' hlen' F' N'; (try dsimp only))))
theorem news_drop2 {h₀ h : Heap} {L : Addr} {q q' : Addr × Obj} {news : List (Addr × Obj)} (N : News h₀ L h (q :: q' :: news)) : News h₀ L h news := fun p hp => N p (List.mem_cons_of_mem _ (List.mem_cons_of_mem _ hp))
local macro_rules | `(tactic| walk_at "call builtin:str.split") => `(tactic| (k_here; (refine split_star (by k_asm) (by k_asm) (by decide) (by first | with_reducible assumption | omega | l_fact) ?_); intro D' vs' h' tk' hvs' hP' F' N' l1; (try k_lt l1)))
local macro_rules | `(tactic| walk_at "call builtin:len") => `(tactic| (k_here; (with_reducible show wpAny _ _ (call (Value.builtin "len") [Value.ref _]) _ _ _); k_dflt (refine' len_strs ?k1 ?k2 ?k3 ?k4 ?_; (case k1 => k_asm); (case k2 => k_mem); (case k3 => with_reducible assumption); (case k4 => exact Pieces.len (by with_reducible assumption))); intro t' tk'))
local macro_rules | `(tactic| walk_at "pyIter ref") => `(tactic| (k_here; (with_reducible show wpAny _ _ (pyIter (Value.ref _)) (fun it s₂ => LoopAtV _ _ _ _ _ (Str.ofString "k") _ _ _ it s₂) _ _); k_dflt (refine' due_loop ?k1 ?k2 ?k3 ?k4 ?k5 ?k6 ?k7 (fun k' d' kt' dt' u' h' tk' own' hk' hd' hd2' hp' F' N' => ?_) (fun dt' u' h' tk' F' N' => ?_); (case k1 => rfl); (case k2 => with_reducible assumption); (case k3 => with_reducible assumption); (case k4 => k_asm); (case k5 => k_asm); (case k6 => k_asm); (case k7 => rfl))))
local macro_rules | `(tactic| walk_at "subscriptTail") => `(tactic| (k_here; (with_reducible show wpAny _ _ (subscriptTail _ _ (Value.ref _) (Value.int (Nat.cast _) _)) _ _ _); (with_unfolding_all refine' item_at ?k1 ?k2 ?k3 ?k4 ?k5 ?_; (case k1 => k_asm); (case k2 => k_mem); (case k3 => with_reducible assumption); (case k4 => with_reducible assumption); (case k5 => with_reducible assumption)); intro t'))
local macro_rules | `(tactic| walk_at "DuePost") => `(tactic| (k_dflt (refine' DuePost.intro ?k1 ?k2 ?k3 ?k4 ?k5; (case k1 => k_asm); (case k2 => k_asm); (case k3 => rfl); (case k4 => first | with_reducible exact due_last (by with_reducible assumption) (by with_reducible assumption) | with_reducible exact due_first (by with_reducible assumption) (by with_reducible assumption) (by with_reducible assumption) | with_reducible exact due_mid (by with_reducible assumption) (by with_reducible assumption) (by with_reducible assumption)); (case k5 => (intro z h1 h2 h3; simp only [if_neg h1, if_neg h2, if_neg h3])))))
local macro_rules | `(tactic| walk_at "call type:map") => `(tactic| (k_here; k_dflt (refine' map_K ?k1 ?k2 ?k3 ?_; (case k1 => k_asm); (case k2 => k_asm); (case k3 => k_mem)); intro I' T' M' h' F' N' offI'))
local macro_rules | `(tactic| walk_at "call type:list") => `(tactic| (k_here; (with_reducible show wpAny _ _ (call (Value.type _) [Value.ref _]) _ _ _); k_dflt (refine' list_map_K ?c ?k1 ?k2 ?k3 ?k4 ?k5 ?k6 ?k7 ?k8 ?k9 ?k10 ?k11 ?k12 ?_; (case k2 => k_asm); (case k8 => k_asm); (case c => with_reducible assumption); (case k1 => k_asm); (case k3 => k_asm); (case k4 => k_asm); (case k5 => rfl); (case k6 => ktr_room); (case k7 => ktr_units); (case k9 => with_reducible assumption); (case k10 => k_mem); (case k11 => with_reducible assumption); (case k12 => with_reducible assumption)); intro S' ys' h' tk' c' hys' F' N' off'))
local macro_rules | `(tactic| walk_at "call builtin:len") => `(tactic| (k_here; (with_reducible show wpAny _ _ (call (Value.builtin "len") [Value.ref _]) _ _ _); k_dflt (refine' len_parts ?k1 ?k2 ?k3 ?k4 ?_; (case k1 => k_asm); (case k2 => k_mem); (case k3 => with_reducible assumption); (case k4 => with_reducible assumption)); intro t' tk'))
local macro_rules | `(tactic| walk_at "subscriptTail") => `(tactic| (k_here; (with_reducible show wpAny _ _ (subscriptTail _ _ (Value.ref _) (Value.int (Nat.cast _) _)) _ _ _); (with_unfolding_all refine' parts_at ?k1 ?k2 ?k3 ?k4 ?k5 ?_; (case k1 => k_asm); (case k2 => k_mem); (case k3 => with_reducible assumption); (case k4 => with_reducible assumption); (case k5 => with_reducible assumption)); intro t' hlen'))
local macro_rules | `(tactic| walk_at "pyIter ref") => `(tactic| (k_here; (with_reducible show wpAny _ _ (pyIter (Value.ref _)) (fun it s₂ => LoopAtV _ _ _ _ _ (Str.ofString "i") _ _ _ it s₂) _ _); k_dflt (refine' parts_loop ?k1 ?k2 ?k3 ?k4 ?k5 ?k6 ?k7 (fun i' vs' it' h' tk' rs' hi1' hi2' hvs' off' F' N' => ?_) (fun vs' u' h' tk' hvs' F' N' => ?_); (case k1 => rfl); (case k6 => k_asm); (case k2 => with_reducible assumption); (case k3 => with_reducible assumption); (case k4 => k_asm); (case k5 => k_asm); (case k7 => with_reducible assumption))))
local macro_rules | `(tactic| walk_at "setItem ref int") => `(tactic| (k_here; (with_reducible show wpAny _ _ (setItem (Value.ref _) (Value.int (Nat.cast _) _) (Value.str _ _)) _ _ _); k_dflt (refine' parts_set ?k1 ?k2 ?k3 ?k4 ?k5 ?k6 ?k7 ?k8 ?_; (case k1 => k_asm); (case k2 => k_asm); (case k3 => with_reducible assumption); (case k4 => with_reducible assumption); (case k5 => with_reducible assumption); (case k6 => with_reducible assumption); (case k7 => with_reducible assumption); (case k8 => rfl)); intro h' vs' hvs' F' N'))
local macro_rules | `(tactic| walk_at "PartPost") => `(tactic| (k_dflt (refine' PartPost.intro ?k1 ?k2 ?k3 ?k4; (case k1 => k_asm); (case k2 => k_asm); (case k3 => with_reducible assumption); (case k4 => (intro z h1; simp only [if_neg h1])))))
local macro_rules | `(tactic| walk_at "call builtin:str.join") => `(tactic| (k_here; (with_reducible show wpAny _ _ (call (Value.builtin "str.join") [Value.str _ _, Value.ref _]) _ _ _); k_dflt (refine' join_parts ?k1 ?k2 ?k3 ?k4 ?_; (case k1 => k_asm); (case k2 => k_mem); (case k3 => with_reducible assumption); (case k4 => with_reducible assumption)); intro t' tk'))
local macro_rules | `(tactic| walk_at "subscriptTail") => `(tactic| (k_here; (with_reducible show wpAny _ _ (subscriptTail _ (PySem.Expr.UnaryOp _ _ _) (Value.ref _) (Value.int _ _)) _ _ _); (with_unfolding_all refine' parts_last ?k1 ?k2 ?k3 ?k4 ?_; (case k1 => k_asm); (case k2 => k_mem); (case k3 => with_reducible assumption); (case k4 => with_reducible assumption)); intro t' hlen'))
local macro_rules | `(tactic| walk_at "setItem ref int") => `(tactic| (k_here; (with_reducible show wpAny _ _ (setItem (Value.ref _) (Value.int _ _) (Value.str (_ ++ esc _) _)) _ _ _); k_dflt (refine' parts_setLast ?k1 ?k2 ?k3 ?k4 ?k5 ?k6 ?_; (case k1 => k_asm); (case k2 => k_asm); (case k3 => with_reducible assumption); (case k4 => with_reducible assumption); (case k5 => with_reducible assumption); (case k6 => rfl)); intro h' vs' hvs' F' N'))
theorem join_any {α : Type} {l : List α} {g : α → PySem.Str} {ys : List Value} {prog : Program} {w : World} {A : Around} {E : Value → Shared → Prop} {s : Shared} {D : Addr} {t : Tok} {Q : Value → Shared → Prop} (hl : s.heap.IsList D ys.toArray) (hc : CarriedAll ys (l.map fun a => PyData.str (g a))) (h1 : ∀ a ∈ l, (g a).length = 1) (hn : l.length ≤ 1000)
    (h : ∀ (x : PySem.Str) (t' : Tok) (k : Nat), x.length ≤ 1000 → Q (.str x t') { s with toks := k }) : wpAny (model prog w) A (call (.builtin "str.join") [.str (Str.ofString "") t, .ref D]) Q E s :=
  KT.join_1 hl hc h1 (by omega) fun t' k e => h _ t' k (by rw [e]; exact hn)
theorem filter_1000 {p : Int → Bool} {l : List Int} (h : ¬ (63 : Int) < (l.length : Int)) : (l.filter p).length ≤ 1000 := by
  have := List.length_filter_le p l
  omega
local macro_rules | `(tactic| walk_at "call builtin:str.join") => `(tactic| (k_here; (with_reducible show wpAny _ _ (call (Value.builtin "str.join") [Value.str _ _, Value.ref _]) _ _ _); (with_reducible rename CarriedAll _ (List.map _ _) => ktC); refine join_any (by first | assumption | is_list | exact News.isList (by k_asm) (by k_mem)) ktC (by intro ktA ktM; kct_one) (filter_1000 (by assumption)) ?_; clear ktC; intro x' t' k' hx'))
set_option maxRecDepth 100000 in
set_option maxHeartbeats 8000000 in
theorem t1 : PySem.Challenge.rw_xb0009_01.Holds := hd (by
  k_go0
  refine with_claim 1 8 45 esc (by assumption) (by assumption) ?_ ?_
  · unfold SpellClaim
    intros
    rename_i ret
    refine wpAny_call ?_
    k_dflt cell_enter
    k_steps
    all_goals exact ret _ _ _ (by k_asm) (by k_asm)
  intro hE45
  refine with_claim 1 8 26 esc (by assumption) (by assumption) ?_ ?_
  · clear hE45
    unfold SpellClaim
    intros
    rename_i ret
    refine wpAny_call ?_
    k_dflt cell_enter
    k_steps
    all_goals exact ret _ _ _ (by k_asm) (by k_asm)
  intro hE26
  refine with_claim 3 100 33 tp (by assumption) (by assumption) ?_ ?_
  · clear hE45
    unfold SpellClaim
    intros
    rename_i ret
    refine wpAny_call ?_
    k_dflt cell_enter
    k_steps
    all_goals exact ret _ _ _ (by k_asm) (news_drop2 (by k_asm))
  intro hE33
  refine with_claim 1 8 50 esc (by assumption) (by assumption) ?_ ?_
  · clear hE45 hE26 hE33
    unfold SpellClaim
    intros
    rename_i ret
    refine wpAny_call ?_
    k_dflt (refine' code_defC ?k1 ?k2 ?k3 ?k4 ?k5 ?kA ?kF ?kK ?k6 ?k7 ?k8 ?k9 ?kB ?kD ?_ ?c2 ?c3 ?c4; (case kA => exact rfl); (case kF => exact rfl); (case kK => assumption); (case k1 => k_asm); (case k2 => k_asm); (case k3 => k_asm); (case k4 => k_asm); (case k5 => k_asm); (case k6 => k_is); (case k7 => k_is); (case k8 => ktr_room); (case k9 => exact BindsTo.of_eq rfl); (case kB => exact rfl); (case kD => decide +kernel); (case c2 => exact rfl); (case c3 => exact rfl); (case c4 => exact rfl); k_whole; intro g' L' h' tk' cells' FG' F' N' Y' B' X' T' l1; k_cells Y'; (try simp only [List.cons_append, List.nil_append] at N'); (try dsimp only); (try k_lift B'); (try k_fold))
    k_steps
    all_goals exact ret _ _ _ (by k_asm) (news_drop2 (by k_asm))
  intro hE50
  (all_goals try k_fold)
  k_steps)
end
end Mine
set_option maxRecDepth 100000 in
set_option maxHeartbeats 8000000 in
theorem PySem.Challenge.cw_xb0009_01_holds : PySem.Challenge.rw_xb0009_01.Holds :=
  Mine.t1
