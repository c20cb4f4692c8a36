import PyProof.Rows.All
import Wide.All
import OpenK.AllK
import Wide.FinOn
import PySem.Challenge.RW_dn0142_04
open PySem PySem.W PyProof.Rows
set_option Elab.async false
set_option maxRecDepth 100000
set_option maxHeartbeats 8000000
namespace Mine
open_top hd for PySem.Challenge.rw_dn0142_04
end Mine
section
open PySem PySem.W PyProof.Rows PySem.Builtin PySem.Builtin.Str
namespace Mine
def special (c : Nat) : Bool :=
  (decide (9 ≤ c) && decide (c ≤ 13)) || (decide (40 ≤ c) && decide (c ≤ 43)) || (decide (91 ≤ c) && decide (c ≤ 94)) || (decide (123 ≤ c) && decide (c ≤ 126)) || c == 32 || c == 35 || c == 36 || c == 38 || c == 45 || c == 46 || c == 63

def escC (c : Nat) : List Nat := if special c then [92, c] else [c]
def esc (l : List Nat) : List Nat := l.flatMap escC
theorem esc_cons (c : Nat) (l : List Nat) : esc (c :: l) = escC c ++ esc l := List.flatMap_cons
theorem escC_len (c : Nat) : (escC c).length ≤ 2 := by unfold escC; split <;> simp
theorem esc_len (l : List Nat) : (esc l).length ≤ 2 * l.length := by
  induction l with
  | nil => simp [esc]
  | cons c l ih => rw [esc_cons, List.length_append, List.length_cons]; have := escC_len c; omega

abbrev Grow (h h' : Heap) : Prop := ∀ b o, h.get? b = some o → h'.get? b = some o

section
variable {prog : Program} {w : World} {A : Around} {E : Value → Shared → Prop} {s : Shared}

theorem MapOf.grow {h h' : Heap} {d : Addr} {f : Int → Option Value} (hm : h.MapOf (intKind prog w) d f) (g : Grow h h') : h'.MapOf (intKind prog w) d f :=
  let ⟨o, es, ep, ho, r⟩ := hm; ⟨o, es, ep, g _ _ ho, r⟩

def TabFor (f : Int → Option Value) : Prop := ∀ c : Nat, (special c = false ∧ f c = none) ∨ (special c = true ∧ ∃ u, f c = some (.str ⟨#[92, c]⟩ u))

theorem lookup_rule {d : Addr} {c : Nat} {f : Int → Option Value} {Q : Mapped → Shared → Prop} (hA : A.handled = none)
   (hd : (d == sysModules) = false) (hm : s.heap.MapOf (intKind prog w) d f) (hf : TabFor f)
   (h : ∀ h' tk', Grow s.heap h' → Q (if special c then .text ⟨#[92, c]⟩ else .keep) { s with heap := h', toks := tk' }) :
   wpAny (model prog w) A (tableLookup (.ref d) c) Q E s := by
  unfold tableLookup
  refine wpAny_bind (wpAny_attempt (wpAny_bind (wpAny_mkInt ?_)))
  rcases hf c with ⟨h1, h2⟩ | ⟨h1, u, h2⟩
  · refine wpAny_getItem_missing_of (knd := intKind prog w) (k := (c : Int)) (by simp [intKind, Value.isInt]) hd hA hm h2 fun h' e ne => ?_
    dsimp only
    obtain ⟨ob, t, ho, hc, _⟩ := ne.there
    refine wpAny_bind (wpAny_isInstance (T := "KeyError") (b := true) ⟨ob, ho, hc⟩ (by rw [isSubtype_type]; kernel_rfl) ?_)
    simp only [if_true]
    refine wpAny_bind (wpAny_rule (wpAny_pure ?_))
    have := h h' (s.toks + 1 + 1) ne.keeps
    rw [h1] at this
    exact this
  · refine wpAny_getItem_of (knd := intKind prog w) (k := (c : Int)) (by simp [intKind, Value.isInt]) hm h2 ?_
    dsimp only
    refine wpAny_bind (wpAny_of_eq (a := none) rfl ?_)
    refine wpAny_bind (wpAny_of_eq (a := some ⟨#[92, c]⟩) rfl (wpAny_pure ?_))
    have := h s.heap (s.toks + 1 + 1) (fun _ _ e => e)
    rw [h1] at this
    exact this

/-- the state of translate's loop: what is done so far, and the rest -/
structure TrInv (s₀ : Shared) (x : List Nat) (rest : List Nat) (b : List PySem.Str × Nat × Bool × List (Nat × Option Nat) × Bool) (s' : Shared) : Prop where
  st : ∃ h' tk', s' = { s₀ with heap := h', toks := tk' } ∧ Grow s₀.heap h'
  cut : ∃ pre, x = pre ++ rest ∧ b.1.reverse.flatMap (fun p => p.cps.toList) = esc pre ∧ b.2.1 = (esc pre).length
  known : ∀ p ∈ b.2.2.2.1, special p.1 = false ∧ p.2 = some p.1
  drop : b.2.2.2.2 = false

theorem lookup_known {known : List (Nat × Option Nat)} (hk : ∀ p ∈ known, special p.1 = false ∧ p.2 = some p.1) {c : Nat} {a : Option Nat} (e : List.lookup c known = some a) : special c = false ∧ a = some c := by
  induction known with
  | nil => cases e
  | cons p l ih =>
    rw [List.lookup_cons] at e
    by_cases hc : (c == p.1) = true
    · rw [hc] at e
      have e' : p.2 = a := Option.some.inj e
      have hc' : c = p.1 := eq_of_beq hc
      rw [← e', hc']
      exact hk p (List.mem_cons_self ..)
    · have hc' : (c == p.1) = false := by simpa using hc
      rw [hc'] at e
      exact ih (fun q hq => hk q (List.mem_cons_of_mem _ hq)) e

theorem foldl_cps (l : List PySem.Str) : ∀ acc : Array Nat, (l.foldl (fun acc p => acc ++ p.cps) acc).toList = acc.toList ++ l.flatMap (fun p => p.cps.toList) := by
  induction l with
  | nil => intro acc; simp
  | cons p l ih => intro acc; rw [List.foldl_cons, ih, List.flatMap_cons]; simp

theorem translate_rule {d : Addr} {x : PySem.Str} {t : Tok} {f : Int → Option Value} {Q : Value → Shared → Prop} (hA : A.handled = none)
   (hd : (d == sysModules) = false) (hm : s.heap.MapOf (intKind prog w) d f) (hf : TabFor f)
   (hlen : 2 * x.cps.size ≤ sizeLine)
   (h : ∀ h' tk' t', Grow s.heap h' → Q (.str ⟨(esc x.cps.toList).toArray⟩ t') { s with heap := h', toks := tk' }) :
   wpAny (model prog w) A (call (.builtin "str.translate") [.str x t, .ref d]) Q E s := by
  refine wpAny_call_entry PySem.F.slot_str_translate (PySem.typeIs_str _ _ _) PySem.F.entry_str_translate ?_ (PySem.F.args_str_translate_2 _ _)
  unfold Builtin.«str.translate»
  refine wpAny_bind (wpAny_of_eq (a := (.str x t, x, .ref d)) rfl ?_)
  dsimp only
  by_cases h0 : x.length = 0
  · rw [if_pos (by simp [h0])]
    refine wpAny_bind (wpAny_rule (wpAny_bind (wpAny_of_eq (a := .str x t) rfl (wpAny_pure ⟨_, rfl, ?_⟩))))
    have hx : x = ⟨(esc x.cps.toList).toArray⟩ := by
      obtain ⟨⟨l⟩⟩ := x
      have : l = [] := List.length_eq_zero_iff.mp h0
      subst this; rfl
    have := h s.heap s.toks t (fun _ _ e => e)
    rw [← hx] at this
    exact this
  · rw [if_neg (by simp [h0])]
    refine wpAny_bind (MeetsSeq2.wpAny_forIn_array _ (TrInv s x.cps.toList) _ ?turn ?fin _ _ ?start)
    case start => exact ⟨⟨s.heap, s.toks, rfl, fun _ _ e => e⟩, ⟨[], rfl, rfl, rfl⟩, (fun p hp => nomatch hp), rfl⟩
    case turn =>
      rintro c rest ⟨pieces, total, fast, known, drop⟩ s' ⟨⟨h', tk', rfl, g⟩, ⟨pre, hx, hp, ht⟩, hk, hdr⟩
      dsimp only at hp ht hk hdr ⊢
      subst hdr
      have hl : (esc pre).length ≤ sizeLine := by
        have := esc_len pre
        have hx' : x.cps.size = pre.length + (rest.length + 1) := by rw [← Array.length_toList, hx]; simp
        omega
      rw [if_neg (by unfold tooLong; simp; omega)]
      have hm' := MapOf.grow hm g
      have slow : ∀ fast known, (∀ p ∈ known, special p.1 = false ∧ p.2 = some p.1) → ∀ h₂ tk₂, Grow s.heap h₂ → wpAny (model prog w) A.in1
          (do
            let __do_lift ← tableLookup (.ref d) c
            match __do_lift with
              | Mapped.keep => pure (ForInStep.yield ((⟨#[c]⟩ : PySem.Str) :: pieces, total + 1, fast, known, false))
              | Mapped.drop => pure (ForInStep.yield (pieces, total, fast, known, true))
              | Mapped.char d => pure (ForInStep.yield ((⟨#[d]⟩ : PySem.Str) :: pieces, total + 1, fast, known, false))
              | Mapped.text t => pure (ForInStep.yield (t :: pieces, total + t.length, fast, known, false)))
          (fun r s' => match r with
            | ForInStep.yield b' => TrInv s x.cps.toList rest b' s'
            | ForInStep.done b' => False) E { s with heap := h₂, toks := tk₂ } := by
        intro fast known hk h₂ tk₂ g₂
        refine wpAny_bind (lookup_rule (s := { s with heap := h₂, toks := tk₂ }) (by exact hA) hd (MapOf.grow hm g₂) hf fun h₃ tk₃ g₃ => ?_)
        have gg : Grow s.heap h₃ := fun b o e => g₃ b o (g₂ b o e)
        cases hs : special c
        · simp only [Bool.false_eq_true, if_false]
          refine wpAny_pure ⟨⟨h₃, tk₃, rfl, gg⟩, ⟨pre ++ [c], by simp [hx], ?_, ?_⟩, hk, rfl⟩
          · simp [hp, esc, escC, hs]
          · simp [ht, esc, escC, hs]
        · simp only [if_true]
          refine wpAny_pure ⟨⟨h₃, tk₃, rfl, gg⟩, ⟨pre ++ [c], by simp [hx], ?_, ?_⟩, hk, rfl⟩
          · simp [hp, esc, escC, hs]
          · simp [ht, esc, escC, hs, PySem.Str.length]
      cases fast with
      | false =>
        simp only [Bool.false_eq_true, if_false]
        exact wpAny_mono (slow false known hk h' tk' g) (fun r s' hr => by cases r with | yield b' => exact hr | done b' => exact hr.elim) (fun _ _ e => e)
      | true =>
        simp only [if_true, Bool.false_eq_true, if_false]
        cases hl : List.lookup c known with
        | some a =>
          obtain ⟨h1, rfl⟩ := lookup_known hk hl
          dsimp only
          refine wpAny_bind (wpAny_pure (wpAny_pure ⟨⟨h', tk', rfl, g⟩, ⟨pre ++ [c], by simp [hx], ?_, ?_⟩, hk, rfl⟩))
          · simp [hp, esc, escC, h1]
          · simp [ht, esc, escC, h1]
        | none =>
          dsimp only
          refine wpAny_bind (lookup_rule (s := { s with heap := h', toks := tk' }) (by exact hA) hd hm' hf fun h₃ tk₃ g₃ => ?_)
          have gg : Grow s.heap h₃ := fun b o e => g₃ b o (g b o e)
          cases hs : special c
          · simp only [Bool.false_eq_true, if_false]
            refine wpAny_bind (wpAny_pure (wpAny_pure ⟨⟨h₃, tk₃, rfl, gg⟩, ⟨pre ++ [c], by simp [hx], ?_, ?_⟩, ?_, rfl⟩))
            · simp [hp, esc, escC, hs]
            · simp [ht, esc, escC, hs]
            · intro p hp
              rcases List.mem_cons.mp hp with rfl | hp
              · exact ⟨hs, rfl⟩
              · exact hk p hp
          · simp only [if_true]
            refine wpAny_bind (wpAny_pure (wpAny_bind (wpAny_rule ?_)))
            exact wpAny_mono (slow false known hk h₃ tk₃ gg) (fun r s' hr => by cases r with | yield b' => exact hr | done b' => exact hr.elim) (fun _ _ e => e)
    case fin =>
      rintro ⟨pieces, total, fast, known, drop⟩ s' ⟨⟨h', tk', rfl, g⟩, ⟨pre, hx, hp, ht⟩, hk, hdr⟩
      dsimp only at hp ht hk hdr ⊢
      have hl : (esc pre).length ≤ sizeLine := by
        have := esc_len pre
        have hx' : x.cps.size = pre.length := by rw [← Array.length_toList, hx]; simp
        omega
      rw [if_neg (by unfold tooLong; simp; omega)]
      have e : ({ cps := List.foldl (fun acc p => acc ++ p.cps) #[] pieces.reverse } : PySem.Str) = ⟨(esc x.cps.toList).toArray⟩ := by
        congr 1
        apply Array.toList_inj.mp
        rw [foldl_cps, hx]
        simpa using hp
      rw [e]
      refine wpAny_bind (wpAny_mkStr (wpAny_pure ⟨_, rfl, h h' _ _ g⟩) ?_)
      show (esc x.cps.toList).toArray.size ≤ sizeLine
      rw [hx, List.append_nil, List.size_toArray]
      exact hl
end
end Mine

end
section
open PySem PySem.W PyProof.Rows PySem.Builtin PySem.Builtin.Str
namespace Mine

section
variable {M : Model} {A : Around} {E : Value → Shared → Prop} {s : Shared}
end



section
variable {prog : Program} {w : World} {A : Around} {E : Value → Shared → Prop} {s : Shared}


end
end Mine

end
section
open PySem PySem.W PyProof.Rows PySem.Builtin PySem.Builtin.Str
namespace Mine
def tabOK (es : Array DictEntry) : Bool :=
  (es.toList.all fun e => match e.key with | .int k _ => decide (k < 128) && (e.hash == hashInt k) | _ => false) &&
  (List.range 128).all fun c => match findBy Value.isInt es (c : Int) with | none => !special c | some (.str y _) => special c && (y == ⟨#[92, c]⟩) | _ => false

theorem special_big {c : Nat} (h : 128 ≤ c) : special c = false := by
  unfold special
  simp
  omega

theorem tab_for {es : Array DictEntry} (ok : tabOK es = true) : TabFor (findBy Value.isInt es) := by
  unfold tabOK at ok
  rw [Bool.and_eq_true] at ok
  obtain ⟨h1, h2⟩ := ok
  intro c
  by_cases hc : c < 128
  · have := List.all_eq_true.mp h2 c (List.mem_range.mpr hc)
    revert this
    cases hf : findBy Value.isInt es (c : Int) with
    | none => intro h; exact .inl ⟨by simpa using h, rfl⟩
    | some v =>
      cases v with
      | str y u =>
        intro h
        rw [Bool.and_eq_true] at h
        exact .inr ⟨h.1, u, by rw [eq_of_beq h.2]⟩
      | _ => intro h; cases h
  · refine .inl ⟨special_big (by omega), ?_⟩
    unfold findBy
    have : es.find? (fun e => Value.isInt (c : Int) e.key) = none := by
      rw [Array.find?_eq_none]
      intro e he
      have := List.all_eq_true.mp h1 e (by simpa using he)
      revert this
      cases hk : e.key with
      | int k t =>
        intro h
        simp only [Bool.and_eq_true, decide_eq_true_eq] at h
        simp [Value.isInt]
        omega
      | _ => intro h; cases h
    rw [this]
    rfl

theorem tab_of {prog : Program} {w : World} {K : Frag} {h : Heap} {d : Addr} (X : K.In h) {es : Array DictEntry} {ep : Nat} (e : K.lookup d = some ⟨.type "dict", none, .dict es ep, #[]⟩) (ok : tabOK es = true) :
    h.MapOf (intKind prog w) d (findBy Value.isInt es) := by
  refine ⟨_, es, ep, X _ _ e, ⟨rfl, rfl, rfl⟩, rfl, ?_, fun k => rfl⟩
  intro en hen
  unfold tabOK at ok
  rw [Bool.and_eq_true] at ok
  have := List.all_eq_true.mp ok.1 en (by simpa using hen)
  revert this
  cases hk : en.key with
  | int k t =>
    intro h
    simp only [Bool.and_eq_true, decide_eq_true_eq] at h
    exact ⟨k, by simp [intKind, Value.isInt], eq_of_beq h.2⟩
  | _ => intro h; cases h

section
variable {M : Model} {A : Around} {E : Value → Shared → Prop} {s : Shared}
theorem gm_translate {x : PySem.Str} {t : Tok} {pl : Sem Bool} {Q : Value × List Value → Shared → Prop} (h : Q (.builtin "str.translate", [.str x t]) s) : wpAny M A (getMethod (.str x t) (PySem.Str.ofString "translate") pl) Q E s := by
  with_reducible exact PySem.GM.of (.str x t) (typeIs_str _ _ _) PySem.F.slot_str_translate PySem.F.type_str_translate PySem.GM.noRef h
end
theorem tr_step {prog : Program} {w : World} {A : Around} {E : Value → Shared → Prop} {s : Shared} {K : Frag} {h₀ : Heap} {L : Addr} {m : PySem.Str → Option Value} {news : List (Addr × Obj)} {d : Addr} {x : PySem.Str} {t : Tok} {es : Array DictEntry} {ep : Nat} {Q : Value → Shared → Prop}
   (F : Fr h₀ L s.heap m) (N : News h₀ L s.heap news) (X : K.In h₀) (e : K.lookup d = some ⟨.type "dict", none, .dict es ep, #[]⟩) (ok : tabOK es = true) (hd : (d == sysModules) = false) (hA : A.handled = none) (hlen : 2 * x.cps.size ≤ sizeLine)
   (h : ∀ h' tk' t', Fr h₀ L h' m → News h₀ L h' news → Q (.str ⟨(esc x.cps.toList).toArray⟩ t') { s with heap := h', toks := tk' }) :
   wpAny (model prog w) A (call (.builtin "str.translate") [.str x t, .ref d]) Q E s :=
  translate_rule hA hd (tab_of (X.keeps F.keep) e ok) (tab_for ok) hlen fun h' tk' t' g => h h' tk' t' (F.keeps g) (N.grown g)


theorem special_iff {c : Nat} : special c = true ↔ ((9 ≤ c ∧ c ≤ 13) ∨ (40 ≤ c ∧ c ≤ 43) ∨ (91 ≤ c ∧ c ≤ 94) ∨ (123 ≤ c ∧ c ≤ 126) ∨ c = 32 ∨ c = 35 ∨ c = 36 ∨ c = 38 ∨ c = 45 ∨ c = 46 ∨ c = 63) := by
  unfold special
  simp only [Bool.or_eq_true, Bool.and_eq_true, decide_eq_true_eq, beq_iff_eq, or_assoc]
theorem int_is (n c : Nat) : ((n : Int) = (c : Int)) = (c = n) := propext ⟨fun h => (Int.ofNat.inj h).symm, fun h => by rw [h]⟩
theorem special_any {c : Nat} (h : ¬ ((9 ≤ c ∧ c ≤ 13) ∨ (40 ≤ c ∧ c ≤ 43) ∨ (91 ≤ c ∧ c ≤ 94) ∨ (123 ≤ c ∧ c ≤ 126))) : ([32, 35, 36, 38, 45, 46, 63].any fun x : Int => x == (c : Int)) = special c := by
  rw [Bool.eq_iff_iff, special_iff]
  simp only [List.any_cons, List.any_nil, Bool.or_false, Bool.or_eq_true, beq_iff_eq]
  have e : (((32 : Nat) : Int) = (c : Int) ∨ ((35 : Nat) : Int) = (c : Int) ∨ ((36 : Nat) : Int) = (c : Int) ∨ ((38 : Nat) : Int) = (c : Int) ∨ ((45 : Nat) : Int) = (c : Int) ∨ ((46 : Nat) : Int) = (c : Int) ∨ ((63 : Nat) : Int) = (c : Int)) ↔ (c = 32 ∨ c = 35 ∨ c = 36 ∨ c = 38 ∨ c = 45 ∨ c = 46 ∨ c = 63) := by
    simp only [int_is]
  constructor
  · intro h'
    exact .inr (.inr (.inr (.inr (e.mp h'))))
  · rintro (h' | h' | h' | h' | h')
    · exact absurd (.inl h') h
    · exact absurd (.inr (.inl h')) h
    · exact absurd (.inr (.inr (.inl h'))) h
    · exact absurd (.inr (.inr (.inr h'))) h
    · exact e.mpr h'
theorem News.tl {h₀ h : Heap} {L : Addr} {q : Addr × Obj} {news : List (Addr × Obj)} (N : News h₀ L h (q :: news)) : News h₀ L h news := fun p hp => N p (List.mem_cons_of_mem _ hp)
end Mine

end
section
open PySem PySem.W PyProof.Rows PySem.Spec PySem.Calls
namespace Mine

theorem ne_allLt {d : Addr} : ∀ {l : List (Addr × Obj)}, AllLt d l → ∀ p ∈ l, p.1 ≠ d
  | [], _, _, h => nomatch h
  | q :: _, x, p, h => by
    rcases List.mem_cons.mp h with rfl | h
    · exact Nat.ne_of_lt x.1
    · exact ne_allLt x.2 p h
theorem ne_lt {d : Addr} {l : List (Addr × Obj)} (h : ∀ p ∈ l, p.1 < d) : ∀ p ∈ l, p.1 ≠ d := fun p hp => Nat.ne_of_lt (h p hp)

/-- a claim of a def, with room for k frames -/
abbrev Claim (k : Nat) (prog : Program) (w : World) (K : Frag) (p : Program) (loose : List Str) (mean : ExcName → Option Value) (mg mb : Str → Option Value) (f : Addr) (news : List (Addr × Obj)) (vs : List Value) (R : Tok → Value) : Prop :=
  ∀ (dp un : Nat) (gd : Option (List Code)) (cn : Str) (cs : Scope) (a : Addr) (ccd : Value) (cl : List (Str × Addr)) (outer : List Env) (A₀ : Around) (base h₀ : Heap) (L : Addr) (m : Str → Option Value) (s : Shared) (Q E : Value → Shared → Prop),
    Below A₀ base outer h₀ → Fr h₀ L s.heap m → K.In h₀ → News h₀ L s.heap news → Top p loose mean mg mb h₀ → cs.kind = .function →
    dp + k < recursionLimit → un + 8 * k < cLine → (∀ (t : Tok) (h' : Heap) (tk' : Nat), Fr h₀ L h' m → News h₀ L h' news → Q (R t) { s with heap := h', toks := tk' }) →
      wpAny (model prog w) (ktrTop dp un gd cn cs L a ccd cl outer) (call (.ref f) vs) Q E s

theorem claim_use {k : Nat} {prog : Program} {w : World} {K : Frag} {p : Program} {loose : List Str} {mean : ExcName → Option Value} {mg mb : Str → Option Value} {f : Addr} {news : List (Addr × Obj)} {vs : List Value} {R : Tok → Value}
    {dp un : Nat} {gd : Option (List Code)} {cn : Str} {cs : Scope} {a : Addr} {ccd : Value} {cl : List (Str × Addr)} {outer : List Env} {A₀ : Around} {base h₀ : Heap} {L : Addr} {m : Str → Option Value} {s : Shared} {Q E : Value → Shared → Prop}
    (C : Claim k prog w K p loose mean mg mb f news vs R) (B : Below A₀ base outer h₀) (F : Fr h₀ L s.heap m) (X : K.In h₀) (N : News h₀ L s.heap news) (T : Top p loose mean mg mb h₀) (hk : cs.kind = .function)
    (hd : dp + k < recursionLimit) (hu : un + 8 * k < cLine) (ret : ∀ (t : Tok) (h' : Heap) (tk' : Nat), Fr h₀ L h' m → News h₀ L h' news → Q (R t) { s with heap := h', toks := tk' }) :
    wpAny (model prog w) (ktrTop dp un gd cn cs L a ccd cl outer) (call (.ref f) vs) Q E s := C _ _ _ _ _ _ _ _ _ _ _ _ _ _ _ _ _ B F X N T hk hd hu ret

/-- what a turn must show at its end -/
def TEnd (h₀ : Heap) (L : Addr) (J : (Str → Option Value) → List (Addr × Obj) → Prop) (I : Addr) (oI : Obj) (s₁ s₂ : Shared) : Prop :=
  ∃ h' tk m' news', s₂ = { s₁ with heap := h', toks := tk } ∧ Fr h₀ L h' m' ∧ News h₀ L h' ((I, oI) :: news') ∧ (∀ p ∈ news', p.1 ≠ I) ∧ J m' news'
def TPost (h₀ : Heap) (L : Addr) (J : (Str → Option Value) → List (Addr × Obj) → Prop) (I : Addr) (oI : Obj) (s₁ : Shared) (Q : Flow → Shared → Prop) (f : Flow) (s₂ : Shared) : Prop :=
  match f with
  | .ret v => Q (.ret v) s₂
  | .brk => Q .next s₂
  | _ => TEnd h₀ L J I oI s₁ s₂
section
variable {h₀ : Heap} {L : Addr} {J : (Str → Option Value) → List (Addr × Obj) → Prop} {I : Addr} {oI : Obj} {s₁ s₂ : Shared} {Q : Flow → Shared → Prop}
theorem TPost.next (h : TEnd h₀ L J I oI s₁ s₂) : TPost h₀ L J I oI s₁ Q .next s₂ := h
theorem TPost.ret {v : Value} (h : Q (.ret v) s₂) : TPost h₀ L J I oI s₁ Q (.ret v) s₂ := h
theorem TEnd.mk' {h' : Heap} {tk : Nat} {m' : Str → Option Value} {all news' : List (Addr × Obj)} (F : Fr h₀ L h' m') (N : News h₀ L h' all) (sub : ∀ p ∈ (I, oI) :: news', p ∈ all) (off : ∀ p ∈ news', p.1 ≠ I) (j : J m' news') :
    TEnd h₀ L J I oI s₁ { s₁ with heap := h', toks := tk } := ⟨h', tk, m', news', rfl, F, fun p hp => N p (sub p hp), off, j⟩
end

section
variable {prog : Program} {w : World} {A : Around} {E : Value → Shared → Prop} {s : Shared} {env : Env} {h₀ : Heap} {x : Str} {body : List Stmt} {Q : Flow → Shared → Prop}

theorem loop_of_walk {I : Addr} {n : Nat} {P : Nat → Value → Prop} {St : Nat → Heap → Prop} {o : Obj} {m₀ : Str → Option Value} {news : List (Addr × Obj)} (J : Nat → (Str → Option Value) → List (Addr × Obj) → Prop)
    (W : Walks prog w A I [I] [I] n P St) (alive : ∀ i h, St i h → ∃ o, h.get? I = some o) (hI : I = s.heap.objs.size) (hst : St 0 (s.heap.push o))
    (F : Fr h₀ env.locals s.heap m₀) (N : News h₀ env.locals s.heap news) (hj : J 0 m₀ news)
    (turn : ∀ i v m₁ news₁ h tk I oI, i < n → P i v → J i m₁ news₁ → (∀ p ∈ news₁, p.1 ≠ I) → Fr h₀ env.locals h (fun y => if y = x then some v else m₁ y) → News h₀ env.locals h ((I, oI) :: news₁) →
      wpAny (model prog w) A (execs body env) (TPost h₀ env.locals (J (i + 1)) I oI { s with heap := h, toks := tk } Q) E { s with heap := h, toks := tk })
    (done : ∀ m₁ news₁ h tk, J n m₁ news₁ → Fr h₀ env.locals h m₁ → News h₀ env.locals h news₁ → Q .next { s with heap := h, toks := tk }) :
    LoopAtV prog w A h₀ env x body Q E (.ref I) { s with heap := s.heap.push o } := by
  subst hI
  refine ⟨_, _, _, n, _, _, m₀, news, J, rfl, W, ?_, ?_, ?_, hst, F.push _, (fun p hp => ⟨Heap.get?_push_of_some _ (N p hp).1, (N p hp).2⟩), hj, ?_, ?_⟩
  · intro hm
    exact absurd F.ns.lt ((List.mem_singleton.mp hm) ▸ Nat.lt_irrefl _)
  · intro b hb
    rw [List.mem_singleton.mp hb]
    exact next_is_new F
  · intro p hp hI
    exact absurd (Heap.lt_size (N p hp).1) ((List.mem_singleton.mp hI) ▸ Nat.lt_irrefl _)
  · rintro i v m₁ news₁ s₁ own ⟨hh', tk', rfl⟩ hin hP hJ hoff hsub hget hall hst₁ F₁ N₁
    obtain ⟨oI, hoI⟩ := alive _ _ hst₁
    have hI₀ : h₀.get? s.heap.objs.size = none := next_is_new F
    have hmem : (s.heap.objs.size, oI) ∈ own := hall _ (List.mem_singleton.mpr rfl) hI₀ oI hoI
    have hown : ∀ p ∈ own, p = (s.heap.objs.size, oI) := fun p hp => by
      have h1 : p.1 = s.heap.objs.size := List.mem_singleton.mp (hsub p hp)
      have h2 := hget p hp
      rw [h1] at h2
      have h3 : some oI = some p.2 := hoI.symm.trans h2
      obtain ⟨p1, p2⟩ := p
      cases h1; cases h3; rfl
    have hoff' : ∀ p ∈ news₁, p.1 ≠ s.heap.objs.size := fun p hp e => hoff p hp (List.mem_singleton.mpr e)
    refine wpAny_mono (turn i v m₁ news₁ hh' tk' s.heap.objs.size oI hin hP hJ hoff' F₁ ?_) (fun f s₂ p => ?_) fun _ _ e => e
    · intro p hp
      rcases List.mem_cons.mp hp with rfl | hp
      · exact N₁ _ (List.mem_append_left _ hmem)
      · exact N₁ p (List.mem_append_right _ hp)
    have fin : TEnd h₀ env.locals (J (i + 1)) s.heap.objs.size oI { s with heap := hh', toks := tk' } s₂ → LoopStepU h₀ env.locals [s.heap.objs.size] own (J (i + 1)) { s with heap := hh', toks := tk' } .next s₂ := by
      rintro ⟨h', tk, m', news', e, F', N', off, hm⟩
      refine ⟨rfl, h', tk, m', news', e, F', fun p hp => ?_, fun p hp hI => off p hp (List.mem_singleton.mp hI), hm⟩
      rcases List.mem_append.mp hp with hp | hp
      · rw [hown p hp]; exact N' _ (List.mem_cons_self ..)
      · exact N' p (List.mem_cons_of_mem _ hp)
    cases f with
    | ret v => exact .ret p
    | brk => exact .brk p
    | next => exact .next (fin p)
    | cont => exact .cont (fin p)
  · rintro h' tk m' news' F' N' _ hJ
    exact done m' news' h' tk hJ F' N'

abbrev Inv := (Str → Option Value) → List (Addr × Obj) → Nat → (Str → Option Value) → List (Addr × Obj) → Prop

theorem iter_str {y : PySem.Str} {t : Tok} {m₀ : Str → Option Value} {news : List (Addr × Obj)} (J : Inv)
    (hh : A.handled = none) (F : Fr h₀ env.locals s.heap m₀) (N : News h₀ env.locals s.heap news) (hj : J m₀ news 0 m₀ news)
    (turn : ∀ i c u m₁ news₁ h tk I oI, y.cps.toList[i]? = some c → J m₀ news i m₁ news₁ → (∀ p ∈ news₁, p.1 ≠ I) → Fr h₀ env.locals h (fun z => if z = x then some (.str ⟨#[c]⟩ u) else m₁ z) → News h₀ env.locals h ((I, oI) :: news₁) →
      wpAny (model prog w) A (execs body env) (TPost h₀ env.locals (J m₀ news (i + 1)) I oI { s with heap := h, toks := tk } Q) E { s with heap := h, toks := tk })
    (done : ∀ m₁ news₁ h tk, J m₀ news y.cps.toList.length m₁ news₁ → Fr h₀ env.locals h m₁ → News h₀ env.locals h news₁ → Q .next { s with heap := h, toks := tk }) :
    wpAny (model prog w) A (pyIter (.str y t)) (fun it s₂ => LoopAtV prog w A h₀ env x body Q E it s₂) E s := by
  have turn' : ∀ i v m₁ news₁ h tk I oI, i < y.cps.size → SignAt y i v → J m₀ news i m₁ news₁ → (∀ p ∈ news₁, p.1 ≠ I) → Fr h₀ env.locals h (fun z => if z = x then some v else m₁ z) → News h₀ env.locals h ((I, oI) :: news₁) →
      wpAny (model prog w) A (execs body env) (TPost h₀ env.locals (J m₀ news (i + 1)) I oI { s with heap := h, toks := tk } Q) E { s with heap := h, toks := tk } := by
    rintro i v m₁ news₁ h tk I oI _ ⟨c, u, hc, rfl⟩ hJ off F' N'
    exact turn i c u m₁ news₁ h tk I oI (by simpa using hc) hJ off F' N'
  have done' : ∀ m₁ news₁ h tk, J m₀ news y.cps.size m₁ news₁ → Fr h₀ env.locals h m₁ → News h₀ env.locals h news₁ → Q .next { s with heap := h, toks := tk } := by simpa using done
  cases ha : y.cps.all (· < 128)
  · refine wpAny_pyIter_wide ha ?_
    exact loop_of_walk (J m₀ news) (Walks.strWide hh _ y t) (fun i h st => by obtain ⟨o, e, _⟩ := st; exact ⟨o, e⟩) rfl ⟨_, Heap.get?_push_size _ rfl, rfl, rfl⟩ F N hj turn' done'
  · refine wpAny_pyIter_ascii ha ?_
    exact loop_of_walk (J m₀ news) (Walks.strAscii hh _ y t) (fun i h st => by obtain ⟨o, e, _⟩ := st; exact ⟨o, e⟩) rfl ⟨_, Heap.get?_push_size _ rfl, rfl, rfl⟩ F N hj turn' done'

/-- a goal that the walk leaves alone -/
def Stop (P : Prop) : Prop := P
theorem stop_For {m : Str → Option Value} {px pos : Pos} {iter : Expr} (_F : Fr h₀ env.locals s.heap m) (hx : env.kindOf x = some .local)
    (hp : (env.scope.kind == .class || (env.scope.kind == .module && env.locals != env.globals)) = false)
    (h : wpAny (model prog w) A (eval iter env) (fun xv s₁ => Stop (wpAny (model prog w) A (pyIter xv) (fun it s₂ => LoopAtV prog w A h₀ env x body Q E it s₂) E s₁)) E s)
    (hs : ∀ x, foldedSetIterable iter env x = pure x := by intro _; rfl)
    (hE : PassesOwn (model prog w) A env E := by passes_own) :
    wpAny (model prog w) A (exec (.For (.Name x px) iter body [] pos) env) Q E s := For_invVF _F hx hp h hs
end
end Mine

end
section
open PySem PySem.W PyProof.Rows PySem.Spec PySem.Calls
namespace Mine
abbrev tx (l : List Nat) : PySem.Str := ⟨l.toArray⟩
theorem tx_len (l : List Nat) : (tx l).length = l.length := by simp [PySem.Str.length]
theorem tx_append (a b : List Nat) : tx a ++ tx b = tx (a ++ b) := by
  show PySem.Str.append _ _ = _
  simp [PySem.Str.append, tx]
theorem tx_cps (x : PySem.Str) : x = tx x.cps.toList := by simp [tx]
theorem tx_inj {a b : List Nat} (h : tx a = tx b) : a = b := by
  have : (tx a).cps.toList = (tx b).cps.toList := by rw [h]
  simpa using this
theorem map_self (m : Str → Option Value) (a : Str) : m = fun y => if y = a then m a else m y := by
  funext y
  by_cases h : y = a
  · subst h; simp
  · simp [h]
/-- texts with one between each two -/
def glue (sep : List Nat) : List (List Nat) → List Nat
  | [] => []
  | [x] => x
  | x :: r => x ++ sep ++ glue sep r
theorem join_tx (sep : List Nat) : ∀ ls : List (List Nat), Txt.join (tx sep) (ls.map tx) = tx (glue sep ls) := by
  intro ls
  show PySem.Builtin.Str.glued _ _ = _
  rw [PySem.StrLaws.glued_eq_join]
  induction ls with
  | nil => rfl
  | cons x r ih =>
    cases r with
    | nil => rfl
    | cons y r =>
      show tx x ++ tx sep ++ PySem.Str.join (tx sep) ((y :: r).map tx) = _
      rw [ih, tx_append, tx_append]
      rfl
theorem ofString_nil : PySem.Str.ofString "" = tx [] := by decide +kernel
theorem ofString_bs : PySem.Str.ofString "\\" = tx [92] := by decide +kernel
theorem foldl_rep (c : Nat) : ∀ (n : Nat) (acc : Array Nat), ((List.replicate n #[c]).foldl (· ++ ·) acc) = acc ++ (List.replicate n c).toArray := by
  intro n
  induction n with
  | zero => intro acc; simp
  | succ n ih =>
    intro acc
    rw [List.replicate_succ, List.foldl_cons, ih, List.replicate_succ]
    apply Array.toList_inj.mp
    simp
theorem mul_tx (n : Int) (c : Nat) : Txt.mul (tx [c]) n = tx (List.replicate n.toNat c) := by
  unfold Txt.mul
  by_cases h1 : n < 1
  · rw [if_pos h1, show n.toNat = 0 by omega]
    rfl
  · rw [if_neg h1]
    by_cases h2 : n = 1
    · subst h2; rfl
    · rw [if_neg (by simp [h2, PySem.Str.length])]
      have := foldl_rep c n.toNat #[]
      show (⟨_⟩ : PySem.Str) = ⟨_⟩
      rw [this]
      simp
section
variable {prog : Program} {w : World} {A : Around} {E : Value → Shared → Prop} {s : Shared} {Q : Value → Shared → Prop}
theorem iadd_rule {a b : PySem.Str} {t u : Tok} (hsz : a.cps.size + b.cps.size ≤ sizeLine) (h : ∀ t' k, Q (.str (tx (a.cps.toList ++ b.cps.toList)) t') { s with toks := k }) :
    wpAny (model prog w) A (inplaceOp .Add (.str a t) (.str b u)) Q E s := by
  have e : a ++ b = tx (a.cps.toList ++ b.cps.toList) := by
    rw [← tx_append, ← tx_cps, ← tx_cps]
  refine PyProof.Rows.iadd_str (fun t' tk => ?_) hsz
  rw [e]; exact h _ _
end

theorem map_over {m : Str → Option Value} {a : Str} {v v0 : Option Value} : (fun z => if z = a then v else (fun y => if y = a then v0 else m y) z) = fun y => if y = a then v else m y := by
  funext z
  by_cases h : z = a <;> simp [h]

theorem mod_val {prog : Program} {w : World} {A : Around} {E : Value → Shared → Prop} {s : Shared} {Q : Value → Shared → Prop} {a b k : Int} {t u : Tok} (e : a.fmod b = k) (hb : b ≠ 0) (h : ∀ t' tk, Q (.int k t') { s with toks := tk }) :
    wpAny (model prog w) A (binaryOp .Mod (.int a t) (.int b u)) Q E s := by
  subst e
  exact mod_int' hb (h _ _)
end Mine

end
section
open PySem PySem.W PyProof.Rows PySem.Spec PySem.Calls
namespace Mine
/-- two lists, item by item -/
inductive All2 {α β : Type} (R : α → β → Prop) : List α → List β → Prop
  | nil : All2 R [] []
  | cons {a b l r} : R a b → All2 R l r → All2 R (a :: l) (b :: r)
theorem All2.snoc {α β : Type} {R : α → β → Prop} {a : α} {b : β} (h : R a b) : ∀ {l r}, All2 R l r → All2 R (l ++ [a]) (r ++ [b])
  | _, _, .nil => .cons h .nil
  | _, _, .cons h' t => .cons h' (t.snoc h)
theorem All2.len {α β : Type} {R : α → β → Prop} : ∀ {l : List α} {r : List β}, All2 R l r → r.length = l.length
  | _, _, .nil => rfl
  | _, _, .cons _ t => by simp [t.len]

/-- an element's end: the ledger stands as it stood -/
def CEnd (h₀ : Heap) (L : Addr) (m : Str → Option Value) (s₁ : Shared) (news : List (Addr × Obj)) (R : Value → Prop) (y : Value) (s₂ : Shared) : Prop :=
  ∃ h' tk, s₂ = { s₁ with heap := h', toks := tk } ∧ Fr h₀ L h' m ∧ News h₀ L h' news ∧ R y
theorem CEnd.mk' {h₀ h' : Heap} {L : Addr} {m : Str → Option Value} {s₁ : Shared} {news all : List (Addr × Obj)} {R : Value → Prop} {y : Value} {tk : Nat} (F : Fr h₀ L h' m) (N : News h₀ L h' all) (sub : ∀ p ∈ news, p ∈ all) (r : R y) :
    CEnd h₀ L m s₁ news R y { s₁ with heap := h', toks := tk } := ⟨h', tk, rfl, F, fun p hp => N p (sub p hp), r⟩

section
variable {prog : Program} {w : World} {A : Around} {E : Value → Shared → Prop} {s : Shared} {h₀ : Heap} {L : Addr} {m : Str → Option Value} {env : Env}

abbrev Turn {α : Type} (prog : Program) (w : World) (A : Around) (h₀ : Heap) (L : Addr) (m : Str → Option Value) (env : Env) (elt : Expr) (x : Str) (scope : Scope) (cl : List (Str × Addr)) (s : Shared) (its : List α) (P R : α → Value → Prop) (news : List (Addr × Obj)) : Prop :=
  ∀ (a : α) (v : Value) (I : Addr) (oI : Obj) (C : Addr) (oC : Obj) (D : Addr) (m₂ : Str → Option Value) (ys : List Value) (h : Heap) (tk : Nat) (E' : Value → Shared → Prop), a ∈ its → P a v → LCg.NsObj oC m₂ → m₂ x = some v → Fr h₀ L h m → News h₀ L h ((I, oI) :: (C, oC) :: (D, LCg.lst ys) :: news) → LCg.Off3 I C D news → ((@Ne Nat I C) ∧ (@Ne Nat I D) ∧ (@Ne Nat C D)) →
    wpAny (model prog w) A (eval elt (compEnvC scope cl C env)) (CEnd h₀ L m { s with heap := h, toks := tk } ((I, oI) :: (C, oC) :: (D, LCg.lst ys) :: news) (R a)) E' { s with heap := h, toks := tk }

theorem comp_rest {α : Type} {elt : Expr} {x : Str} {scope : Scope} {cl : List (Str × Addr)} {S : List (Addr × Obj) → Prop} {P' : Nat → Value → Prop} {Fin : List Value → List (Addr × Obj) → Prop} {news : List (Addr × Obj)} {its : List α} {P R : α → Value → Prop}
    (hP : ∀ i v, P' i v → ∃ a, its[i]? = some a ∧ P a v) (hS : S news) (turn : Turn prog w A h₀ L m env elt x scope cl s its P R news) (fin : ∀ ys, All2 R its ys → Fin ys news) : LCg.CompRest prog w A h₀ L m env elt x scope cl s S P' Fin its.length 0 [] news := by
  have key : ∀ (j i : Nat) (ys : List Value), i + j = its.length → All2 R (its.take i) ys → LCg.CompRest prog w A h₀ L m env elt x scope cl s S P' Fin j i ys news := by
    intro j
    induction j with
    | zero =>
      intro i ys hi hy
      have e : i = its.length := by omega
      subst e
      rw [List.take_length] at hy
      exact LCg.CompRest.zero (fin ys hy)
    | succ j ih =>
      intro i ys hi hy
      refine LCg.CompRest.succ ?_
      intro v I oI C oC D m₂ h tk E' hv hC hx F N off ne
      obtain ⟨a, ha, hv'⟩ := hP i v hv
      refine wpAny_mono (turn a v I oI C oC D m₂ ys h tk E' (List.mem_of_getElem? ha) hv' hC hx F N off ne) (fun y s₂ hq => ?_) fun _ _ e => e
      obtain ⟨h', tk', e, F', N', hr⟩ := hq
      refine ⟨h', tk', news, e, F', N', off, hS, ih (i + 1) _ (by omega) ?_⟩
      rw [List.take_add_one, ha]
      exact hy.snoc hr
  exact key _ 0 [] (by omega) .nil

/-- what an iterator must bring so that the comprehension runs -/
def CompAt (prog : Program) (w : World) (A : Around) (h₀ : Heap) (L : Addr) (m : Str → Option Value) (env : Env) (elt : Expr) (x : Str) (scope : Scope) (cl : List (Str × Addr)) (Q : Value → Shared → Prop) (it : Value) (s₂ : Shared) : Prop :=
  ∃ (I : Addr) (fp : List Addr) (n : Nat) (P : Nat → Value → Prop) (St : Nat → Heap → Prop) (S : List (Addr × Obj) → Prop) (news : List (Addr × Obj)), it = .ref I ∧ Walks prog w A I fp [I] n P St ∧ n ≤ sizeLine ∧ (∀ i h, St i h → ∃ o, h.get? I = some o) ∧
    (∀ i h h' o nw, St i h → h.get? I = some o → h'.get? I = some o → (∀ b o, h₀.get? b = some o → h'.get? b = some o) → News h₀ L h' nw → S nw → St i h') ∧ St 0 s₂.heap ∧ (∀ b ∈ fp, b < s₂.heap.objs.size) ∧ Fr h₀ L s₂.heap m ∧ News h₀ L s₂.heap news ∧ L ≠ I ∧ h₀.get? I = none ∧ (∀ p ∈ news, p.1 ≠ I) ∧ S news ∧
    LCg.CompRest prog w A h₀ L m env elt x scope cl s₂ S P (LCg.FinE h₀ L m s₂ Q) n 0 [] news

theorem comp_stop {elt iter : Expr} {x : Str} {px : Pos} {scope : Scope} {cl : List (Str × Addr)} {pos : Pos} {Q : Value → Shared → Prop} (_F₀ : Fr h₀ L s.heap m)
    (hclos : closureFor scope env = pure cl) (hcell : ∀ y ∈ scope.names, y.2 ≠ .cell) (hkind : scope.kind = .function)
    (hnames : ∀ y ∈ scope.names, y.2 = .local → scope.names.lookup y.1 = some .local) (hx : scope.names.lookup x = some .local)
    (h : wpAny (model prog w) A (eval iter env) (fun xv s₁ => Stop (wpAny (model prog w) A (pyIter xv) (fun it s₂ => CompAt prog w A h₀ L m env elt x scope cl Q it s₂) E s₁)) E s)
    (hs : ∀ x, foldedSetIterable iter env x = pure x := by intro _; rfl) :
    wpAny (model prog w) A (eval (.ListComp elt [⟨.Name x px, iter, [], 0⟩] scope pos) env) Q E s := by
  rw [eval_ListComp]
  refine wpAny_comprehension_free (use := none) rfl hs hclos hkind hnames (wpAny_mono h (fun xv s₁ h₁ => wpAny_mono h₁ (fun it s₂ h₂ => ?_) fun _ _ e => e) fun _ _ e => e)
  obtain ⟨I, fp, n, P, St, S, news, rfl, W, hsz, hIo, hSt, hst, hfp, F, N, hIL, hI₀, off, hS, R⟩ := h₂
  refine LCg.block_U W hsz hIo hSt hcell hkind hx hst hfp F N hIL hI₀ off hS R ?_
  intro D C h tk m' ys news' F' N' o1 hn hC₀ hD₀ hCL hDL hCD offC fin
  refine ⟨m', hn, fun h'' hs'' => fin D h'' tk (F'.change hs'' hCL hC₀) (fun p hp => ?_) o1⟩
  refine ⟨hs''.extBut _ _ ?_ (N' p hp).1, (N' p hp).2⟩
  rcases List.mem_cons.mp hp with rfl | hp
  · exact Ne.symm hCD
  · exact offC p hp




/-- over a list that stands in the ledger or below, and is not changed -/
theorem comp_list {ax : Addr} {vs : List Value} {elt : Expr} {x : Str} {scope : Scope} {cl : List (Str × Addr)} {Q : Value → Shared → Prop} {news : List (Addr × Obj)} {R : Value → Value → Prop}
    (hh : A.handled = none) (F : Fr h₀ L s.heap m) (N : News h₀ L s.heap news) (S : LCg.SrcAt h₀ ax vs.toArray news) (hsz : vs.length ≤ sizeLine)
    (turn : Turn prog w A h₀ L m env elt x scope cl s vs (fun a v => v = a) R news)
    (fin : ∀ ys D h tk, All2 R vs ys → Fr h₀ L h m → News h₀ L h ((D, LCg.lst ys) :: news) → LCg.Off1 D news → Q (.ref D) { s with heap := h, toks := tk }) :
    wpAny (model prog w) A (pyIter (.ref ax)) (fun it s₂ => CompAt prog w A h₀ L m env elt x scope cl Q it s₂) E s := by
  have hl := S.list F.keep N
  have hlt : ax < s.heap.objs.size := by obtain ⟨_, e, _⟩ := hl; exact Heap.lt_size e
  refine wpAny_pyIter_list hl ?_
  have W := Walks.list (prog := prog) (w := w) hh s.heap.objs.size ax (Nat.ne_of_lt hlt) vs.toArray
  have e : vs.toArray.size = vs.length := by simp
  rw [e] at W
  refine ⟨_, _, vs.length, _, _, LCg.SrcAt h₀ ax vs.toArray, news, rfl, W, hsz, (fun i h st => by obtain ⟨o, e, _⟩ := st.1; exact ⟨o, e⟩), LCg.list_st, ⟨⟨_, Heap.get?_push_size _ rfl, rfl, rfl⟩, hl.push _⟩, ?_, F.push _, (fun p hp => ⟨Heap.get?_push_of_some _ (N p hp).1, (N p hp).2⟩), Nat.ne_of_lt F.ns.lt, next_is_new F, (fun p hp => Nat.ne_of_lt (Heap.lt_size (N p hp).1)), S, ?_⟩
  · intro b hb
    show b < (s.heap.push _).objs.size
    rw [Heap.size_push]
    rcases List.mem_cons.mp hb with rfl | hb
    · exact Nat.lt_succ_self _
    · rw [List.mem_singleton.mp hb]; exact Nat.lt_succ_of_lt hlt
  · refine comp_rest (P := fun a v => v = a) (R := R) (fun i v hv => ⟨v, by simpa using hv, rfl⟩) S ?_ ?_
    · intro a v I oI C oC D m₂ ys h tk E' ha hv hC hx F N off ne
      exact turn a v I oI C oC D m₂ ys h tk E' ha hv hC hx F N off ne
    · intro ys hy D h tk F' N' o1
      exact fin ys D h tk hy F' N' o1


theorem comp_strs {ax : Addr} {vs : List Value} {ns : List PySem.Str} {elt : Expr} {x : Str} {scope : Scope} {cl : List (Str × Addr)} {Q : Value → Shared → Prop} {news : List (Addr × Obj)} {R : PySem.Str → Value → Prop}
    (hh : A.handled = none) (F : Fr h₀ L s.heap m) (N : News h₀ L s.heap news) (S : LCg.SrcAt h₀ ax vs.toArray news) (hi : StrsAre vs ns) (hsz : ns.length ≤ sizeLine)
    (turn : Turn prog w A h₀ L m env elt x scope cl s ns (fun k v => ∃ u, v = .str k u) R news)
    (fin : ∀ ys D h tk, All2 R ns ys → Fr h₀ L h m → News h₀ L h ((D, LCg.lst ys) :: news) → LCg.Off1 D news → Q (.ref D) { s with heap := h, toks := tk }) :
    wpAny (model prog w) A (pyIter (.ref ax)) (fun it s₂ => CompAt prog w A h₀ L m env elt x scope cl Q it s₂) E s := by
  refine comp_list (R := fun a y => ∃ k u, a = .str k u ∧ R k y) hh F N S (by rw [hi.length]; exact hsz) ?_ ?_
  · intro a v I oI C oC D m₂ ys h tk E' ha hv hC hx F N off ne
    obtain ⟨i, hai⟩ := List.getElem?_of_mem ha
    obtain ⟨k, u, e, hk⟩ := StrsAre.item hi i a hai
    refine wpAny_mono (turn k v I oI C oC D m₂ ys h tk E' (List.mem_of_getElem? hk) ⟨u, by rw [hv, e]⟩ hC hx F N off ne) (fun y s₂ hq => ?_) fun _ _ e => e
    obtain ⟨h', tk', e', F', N', hr⟩ := hq
    exact ⟨h', tk', e', F', N', k, u, e, hr⟩
  · intro ys D h tk hy F' N' o1
    refine fin ys D h tk ?_ F' N' o1
    clear turn fin F' N' S F N hsz
    induction hi generalizing ys with
    | nil => cases hy; exact .nil
    | cons k u _ ih =>
      cases hy with
      | cons h1 h2 =>
        obtain ⟨k', u', e, hr⟩ := h1
        cases e
        exact .cons hr (ih _ h2)
end
section
variable {prog : Program} {w : World} {A : Around} {E : Value → Shared → Prop} {s : Shared} {env : Env} {h₀ : Heap} {x : Str} {body : List Stmt} {Q : Flow → Shared → Prop}
theorem iter_range {r : Addr} {a b : Int} {t u v : Tok} {n : Nat} {m₀ : Str → Option Value} {news : List (Addr × Obj)} (J : Inv)
    (hh : A.handled = none) (hr : IsRange s.heap r a b 1 t u v) (hsm : Builtin.Range.small a b 1 = true) (hn : Builtin.Range.rangeSize a b 1 = ((n : Nat) : Int)) (F : Fr h₀ env.locals s.heap m₀) (N : News h₀ env.locals s.heap news) (hj : J m₀ news 0 m₀ news)
    (turn : ∀ i t' m₁ news₁ h tk I oI, i < n → J m₀ news i m₁ news₁ → (∀ p ∈ news₁, p.1 ≠ I) → Fr h₀ env.locals h (fun z => if z = x then some (.int (a + (i : Int)) t') else m₁ z) → News h₀ env.locals h ((I, oI) :: news₁) →
      wpAny (model prog w) A (execs body env) (TPost h₀ env.locals (J m₀ news (i + 1)) I oI { s with heap := h, toks := tk } Q) E { s with heap := h, toks := tk })
    (done : ∀ m₁ news₁ h tk, J m₀ news n m₁ news₁ → Fr h₀ env.locals h m₁ → News h₀ env.locals h news₁ → Q .next { s with heap := h, toks := tk }) :
    wpAny (model prog w) A (pyIter (.ref r)) (fun it s₂ => LoopAtV prog w A h₀ env x body Q E it s₂) E s := by
  refine wpAny_pyIter_range hr hsm ?_
  refine loop_of_walk (J m₀ news) (LCg.range_walks hh a n) (fun i h st => ⟨_, st⟩) rfl (by show IsRangeIter _ _ _ _ _; rw [hn]; simpa using Heap.get?_push_size _ rfl) F N hj ?_ done
  rintro i v m₁ news₁ h tk I oI hi ⟨t', rfl⟩ hJ off F' N'
  exact turn i t' m₁ news₁ h tk I oI hi hJ off F' N'
end




end Mine

end
section
open PySem PySem.W PyProof.Rows
namespace Mine
end Mine

end
section
open PySem PySem.W PyProof.Rows
namespace Mine
section
variable {α : Type} [DecidableEq α]

end

theorem escC_sp {c : Nat} (h : special c = true) : escC c = [92, c] := by unfold escC; rw [if_pos h]
theorem escC_no {c : Nat} (h : special c = false) : escC c = [c] := by unfold escC; rw [if_neg (by rw [h]; decide)]
theorem sp92 : special 92 = true := by decide
end Mine

end
section
open PySem PySem.W PyProof.Rows
namespace Mine
theorem runs_toks {M : Model} {Γ : Ctx} {p : Pos} {t : Sem PySem.Fin} {fs : List Frame} {s : Shared} {e : End} {s' : Shared} (h : Runs M Γ p t fs s e s') : s.toks ≤ s'.toks := by
  induction h
  all_goals first | assumption | exact Nat.le_refl _ | (simp only [Shared.setGen] at *; omega) | omega
theorem wakes_toks {M : Model} {Γ : Ctx} {p : Pos} {g : Nat} {r : Resume} {s : Shared} {res : GenResult} {s' : Shared} (h : Wakes M Γ p g r s res s') : s.toks ≤ s'.toks := by
  unfold Wakes at h
  split at h
  · exact h.elim
  · split at h
    · obtain ⟨e₁, s₁, hr, _, _, rfl⟩ := h
      have := runs_toks hr
      exact this
    · rw [h.2]; exact Nat.le_refl _
    · rw [h.2]; exact Nat.le_refl _
  · obtain ⟨e₁, s₁, hr, _, _, rfl⟩ := h
    have := runs_toks hr
    exact this
  · rw [h.2]; exact Nat.le_refl _
  · rw [h.2]; exact Nat.le_refl _
theorem wp_toks {α : Type} {M : Model} {Γ : Ctx} {n : Nat} (t : Sem α) {Q : α → Pos → Shared → Prop} {E : Value → Pos → Shared → Prop} (p : Pos) (s : Shared) (hn : n ≤ s.toks)
    (h : Sem.wp M Γ t (fun a p' s' => n ≤ s'.toks → Q a p' s') (fun e p' s' => n ≤ s'.toks → E e p' s') p s) : Sem.wp M Γ t Q E p s := by
  induction t generalizing p s with
  | pure a => exact h hn
  | raise e => exact h hn
  | unsupported _ => exact h
  | finish _ => exact h
  | rule _ k ih => exact ih () _ _ hn h
  | «at» _ k ih => exact ih () _ _ hn h
  | load a _ k ih => obtain ⟨o, ho, h⟩ := h; exact ⟨o, ho, ih o _ _ hn h⟩
  | update a _ f k ih => exact ⟨h.1, ih () _ _ hn h.2⟩
  | alloc o k ih => exact ih _ _ _ hn h
  | loadIfAlive a k ih => exact ih _ _ _ hn h
  | point _ k ih => exact ih () _ _ hn h
  | register _ _ _ => exact h
  | fresh k ih => exact ih _ _ _ (Nat.le_succ_of_le hn) h
  | ask k ih => exact ih _ _ _ hn h
  | choose _ _ k ih => exact ⟨h.1, ih _ _ _ hn h.2⟩
  | os _ _ k ih => exact ih _ _ _ hn h
  | call c hd g l k ih =>
    obtain ⟨r, s', hr, h⟩ := h
    exact ⟨r, s', hr, ih r _ _ (Nat.le_trans hn (runs_toks hr)) h⟩
  | handled _ k ih => exact ih _ _ _ hn h
  | newGen _ k ih => exact ih _ _ _ hn h
  | genState _ k ih => obtain ⟨st, hs, h⟩ := h; exact ⟨st, hs, ih _ _ _ hn h⟩
  | resume _ _ _ k ih =>
    obtain ⟨res, s', hr, h⟩ := h
    exact ⟨res, s', hr, ih res _ _ (Nat.le_trans hn (wakes_toks hr)) h⟩
  | yield _ _ _ _ _ => exact h
  | stack k ih => exact ih _ _ _ hn h
  | fork _ _ _ => exact h
  | thread k ih => exact ih _ _ _ hn h
  | await _ _ _ _ _ _ => exact h
/-- the count of tokens never falls -/
theorem wpAny_toks {α : Type} {M : Model} {A : Around} {t : Sem α} {Q : α → Shared → Prop} {E : Value → Shared → Prop} {s : Shared}
    (h : wpAny M A t (fun a s' => s.toks ≤ s'.toks → Q a s') E s) : wpAny M A t Q E s := fun Γ p hΓ => by
  refine wp_toks (n := s.toks) t p s (Nat.le_refl _) ?_
  exact Sem.wp_mono M Γ t (fun _ _ _ h => h) (fun (e : Value) (_ : Pos) (s' : Shared) (h : E e s') (_ : s.toks ≤ s'.toks) => h) p s (h Γ p hΓ)
end Mine

end
section
open PySem PySem.W PyProof.Rows PySem.Spec PySem.Calls
namespace Mine
/-- an end within a comprehension: the three objects of its own stand, the ledger may have grown -/
def GEnd (h₀ : Heap) (L : Addr) (m : Str → Option Value) (s₁ : Shared) (I : Addr) (oI : Obj) (C D : Addr) (oD : Obj) (K : List (Addr × Obj) → Nat → Prop) (s₂ : Shared) : Prop :=
  ∃ h' tk oC m' news', s₂ = { s₁ with heap := h', toks := tk } ∧ Fr h₀ L h' m ∧ News h₀ L h' ((I, oI) :: (C, oC) :: (D, oD) :: news') ∧ LCg.Off3 I C D news' ∧ LCg.NsObj oC m' ∧ K news' tk
theorem GEnd.mk' {h₀ h' : Heap} {L : Addr} {m : Str → Option Value} {s₁ : Shared} {I C D : Addr} {oI oC oD : Obj} {K : List (Addr × Obj) → Nat → Prop} {tk : Nat} {m' : Str → Option Value} {news' all : List (Addr × Obj)} (F : Fr h₀ L h' m) (N : News h₀ L h' all)
    (sub : ∀ p ∈ (I, oI) :: (C, oC) :: (D, oD) :: news', p ∈ all) (off : LCg.Off3 I C D news') (hC : LCg.NsObj oC m') (k : K news' tk) : GEnd h₀ L m s₁ I oI C D oD K { s₁ with heap := h', toks := tk } :=
  ⟨h', tk, oC, m', news', rfl, F, fun p hp => N p (sub p hp), off, hC, k⟩

abbrev testsOf (ifs : List Expr) (env : Env) : Sem Bool := forIn ifs true fun c r => if r = true then do let ok ← isTrue c env (eval c env); pure (ForInStep.yield ok) else pure (ForInStep.yield r)

section
variable {prog : Program} {w : World} {A : Around} {E : Value → Shared → Prop} {s : Shared} {h₀ : Heap} {L : Addr} {m : Str → Option Value} {env : Env}

abbrev GTurn (prog : Program) (w : World) (A : Around) (h₀ : Heap) (L : Addr) (m : Str → Option Value) (env : Env) (elt target : Expr) (ifs : List Expr) (scope : Scope) (cl : List (Str × Addr)) (s : Shared) (n : Nat) (P : Nat → Value → Prop) (J : Nat → List Value → List (Addr × Obj) → Nat → Prop) : Prop :=
  ∀ (i : Nat) (v : Value) (ys : List Value) (news : List (Addr × Obj)) (I : Addr) (oI : Obj) (C : Addr) (oC : Obj) (D : Addr) (m' : Str → Option Value) (h : Heap) (t₀ tk : Nat) (E' : Value → Shared → Prop), i < n → P i v → J i ys news t₀ → t₀ ≤ tk → LCg.NsObj oC m' → Fr h₀ L h m → News h₀ L h ((I, oI) :: (C, oC) :: (D, LCg.lst ys) :: news) → LCg.Off3 I C D news → ((@Ne Nat I C) ∧ (@Ne Nat I D) ∧ (@Ne Nat C D)) → C ≠ L →
    wpAny (model prog w) A (assign target (compEnvC scope cl C env) v) (fun _ s₃ => wpAny (model prog w) A (testsOf ifs (compEnvC scope cl C env)) (fun ok s₄ =>
      if ok = true then wpAny (model prog w) A (eval elt (compEnvC scope cl C env)) (fun y s₅ => GEnd h₀ L m { s with heap := h, toks := tk } I oI C D (LCg.lst ys) (fun news' tk' => J (i + 1) (ys ++ [y]) news' tk') s₅) E' s₄
      else GEnd h₀ L m { s with heap := h, toks := tk } I oI C D (LCg.lst ys) (fun news' tk' => J (i + 1) ys news' tk') s₄) E' s₃) E' { s with heap := h, toks := tk }

end
end Mine

end
section
open PySem PySem.W PyProof.Rows PySem.Spec PySem.Calls
namespace Mine
section
variable {prog : Program} {w : World} {A : Around} {E : Value → Shared → Prop} {s : Shared} {h₀ : Heap} {L : Addr} {m : Str → Option Value} {env : Env}



/-- a turn whose target is one name -/
abbrev NTurn (prog : Program) (w : World) (A : Around) (h₀ : Heap) (L : Addr) (m : Str → Option Value) (env : Env) (elt : Expr) (x : Str) (ifs : List Expr) (scope : Scope) (cl : List (Str × Addr)) (s : Shared) (n : Nat) (P : Nat → Value → Prop) (J : Nat → List Value → List (Addr × Obj) → Nat → Prop) : Prop :=
  ∀ (i : Nat) (v : Value) (ys : List Value) (news : List (Addr × Obj)) (I : Addr) (oI : Obj) (C : Addr) (oC : Obj) (D : Addr) (m₂ : Str → Option Value) (h : Heap) (t₀ tk : Nat) (E' : Value → Shared → Prop), i < n → P i v → J i ys news t₀ → t₀ ≤ tk → LCg.NsObj oC m₂ → m₂ x = some v → Fr h₀ L h m → News h₀ L h ((I, oI) :: (C, oC) :: (D, LCg.lst ys) :: news) → LCg.Off3 I C D news → ((@Ne Nat I C) ∧ (@Ne Nat I D) ∧ (@Ne Nat C D)) →
    wpAny (model prog w) A (testsOf ifs (compEnvC scope cl C env)) (fun ok s₄ =>
      if ok = true then wpAny (model prog w) A (eval elt (compEnvC scope cl C env)) (fun y s₅ => GEnd h₀ L m { s with heap := h, toks := tk } I oI C D (LCg.lst ys) (fun news' tk' => J (i + 1) (ys ++ [y]) news' tk') s₅) E' s₄
      else GEnd h₀ L m { s with heap := h, toks := tk } I oI C D (LCg.lst ys) (fun news' tk' => J (i + 1) ys news' tk') s₄) E' { s with heap := h, toks := tk }

theorem gturn_name {elt : Expr} {x : Str} {px : Pos} {ifs : List Expr} {scope : Scope} {cl : List (Str × Addr)} {n : Nat} {P : Nat → Value → Prop} {J : Nat → List Value → List (Addr × Obj) → Nat → Prop}
    (hx : scope.names.lookup x = some .local) (hkind : scope.kind = .function) (turn : NTurn prog w A h₀ L m env elt x ifs scope cl s n P J) : GTurn prog w A h₀ L m env elt (.Name x px) ifs scope cl s n P J := by
  intro i v ys news I oI C oC D m' h t₀ tk E' hi hP hJ hle hC F N off ne hCL
  have zC := N (C, oC) (List.mem_cons_of_mem _ (List.mem_cons_self ..))
  have o3 := off.mem
  refine wpAny_assign_Name (wpAny_storeName_local (lookup_relabel_local hx) (hC.ns zC.1) (fun h₃ hn₃ hs₃ => ?_) (by simp [compEnvC, relabel, hkind]))
  obtain ⟨oC', heC', hoC'⟩ := LCg.ns_obj hn₃
  have F₃ : Fr h₀ L h₃ m := F.change hs₃ hCL zC.2.2
  have N₃ : News h₀ L h₃ ((I, oI) :: (C, oC') :: (D, LCg.lst ys) :: news) := fun p hp => by
    rcases List.mem_cons.mp hp with rfl | hp
    · have z := N (I, oI) (List.mem_cons_self ..)
      exact ⟨hs₃.extBut _ _ ne.1 z.1, z.2⟩
    · rcases List.mem_cons.mp hp with rfl | hp
      · exact ⟨heC', zC.2⟩
      · have z := N p (List.mem_cons_of_mem _ (List.mem_cons_of_mem _ hp))
        refine ⟨hs₃.extBut _ _ ?_ z.1, z.2⟩
        rcases List.mem_cons.mp hp with rfl | hp
        · exact Ne.symm ne.2.2
        · exact (o3 p hp).2.1
  refine wpAny_mono (turn i v ys news I oI C oC' D _ h₃ t₀ (tk + 1) E' hi hP hJ (Nat.le_succ_of_le hle) hoC' (by simp) F₃ N₃ off ne) (fun ok s₄ h₄ => ?_) fun _ _ e => e
  cases ok with
  | false => exact h₄
  | true => exact h₄




end
end Mine

end
section
open PySem PySem.W PyProof.Rows PySem.Builtin PySem.Builtin.Str
namespace Mine




section
variable {prog : Program} {w : World} {A : Around} {E : Value → Shared → Prop} {s : Shared} {h₀ : Heap} {L : Addr} {m : PySem.Str → Option Value} {news : List (Addr × Obj)} {Q : Value → Shared → Prop}
end
end Mine

end
section
open PySem PySem.W PyProof.Rows PySem.SeqAt
namespace Mine
section
variable {prog : Program} {w : World} {A : Around} {E : Value → Shared → Prop} {s : Shared} {Q : Value → Shared → Prop}
end
end Mine

end
section
open PySem PySem.W PyProof.Rows PySem.Spec PySem.Calls
namespace Mine

section
variable {prog : Program} {w : World} {A : Around} {E : Value → Shared → Prop} {s : Shared} {h₀ : Heap} {L : Addr} {m : Str → Option Value} {env : Env}

end
end Mine

end
section
open PySem PySem.W PyProof.Rows PySem.Spec PySem.Calls
namespace Mine
section
variable {prog : Program} {w : World} {A : Around} {E : Value → Shared → Prop} {s : Shared} {env : Env} {h₀ : Heap} {x : Str} {body : List Stmt} {Q : Flow → Shared → Prop}
/-- a loop over a list that stands first in the ledger and is changed by nobody -/
theorem iter_own {ax : Addr} {oA : Obj} {vs : List Value} {m₀ : Str → Option Value} {news : List (Addr × Obj)} (J : Inv)
    (hh : A.handled = none) (F : Fr h₀ env.locals s.heap m₀) (N : News h₀ env.locals s.heap ((ax, oA) :: news)) (hl : s.heap.IsList ax vs.toArray) (hj : J m₀ news 0 m₀ news)
    (turn : ∀ i v m₁ news₁ h tk I oI, vs[i]? = some v → J m₀ news i m₁ news₁ → (∀ p ∈ (ax, oA) :: news₁, p.1 ≠ I) → Fr h₀ env.locals h (fun z => if z = x then some v else m₁ z) → News h₀ env.locals h ((I, oI) :: (ax, oA) :: news₁) →
      wpAny (model prog w) A (execs body env) (TPost h₀ env.locals (fun m nw => ∃ nw', nw = (ax, oA) :: nw' ∧ J m₀ news (i + 1) m nw') I oI { s with heap := h, toks := tk } Q) E { s with heap := h, toks := tk })
    (done : ∀ m₁ news₁ h tk, J m₀ news vs.length m₁ news₁ → Fr h₀ env.locals h m₁ → News h₀ env.locals h news₁ → Q .next { s with heap := h, toks := tk }) :
    wpAny (model prog w) A (pyIter (.ref ax)) (fun it s₂ => LoopAtV prog w A h₀ env x body Q E it s₂) E s := by
  have hlt : ax < s.heap.objs.size := by obtain ⟨_, e, _⟩ := hl; exact Heap.lt_size e
  have zA := N (ax, oA) (List.mem_cons_self ..)
  refine wpAny_pyIter_list hl ?_
  have W := Walks.list (prog := prog) (w := w) hh s.heap.objs.size ax (Nat.ne_of_lt hlt) vs.toArray
  refine ⟨_, _, _, vs.toArray.size, _, _, m₀, (ax, oA) :: news, (fun i m nw => ∃ nw', nw = (ax, oA) :: nw' ∧ J m₀ news i m nw'), rfl, W, ?_, ?_, ?_, ⟨⟨_, Heap.get?_push_size _ rfl, rfl, rfl⟩, hl.push _⟩, F.push _, (fun p hp => ⟨Heap.get?_push_of_some _ (N p hp).1, (N p hp).2⟩), ⟨news, rfl, hj⟩, ?_, ?_⟩
  · intro hm
    rcases List.mem_cons.mp hm with h | h
    · exact absurd F.ns.lt (h ▸ Nat.lt_irrefl _)
    · exact zA.2.1 (List.mem_singleton.mp h).symm
  · intro b hb
    rw [List.mem_singleton.mp hb]
    exact next_is_new F
  · intro p hp hI
    exact absurd (Heap.lt_size (N p hp).1) ((List.mem_singleton.mp hI) ▸ Nat.lt_irrefl _)
  · rintro i v m₁ news₁ s₁ own ⟨hh', tk', rfl⟩ hin hP ⟨nw', rfl, hJ⟩ hoff hsub hget hall hst₁ F₁ N₁
    obtain ⟨oI, hoI⟩ : ∃ oI, hh'.get? s.heap.objs.size = some oI := by obtain ⟨o, e, _⟩ := hst₁.1; exact ⟨o, e⟩
    have hI₀ : h₀.get? s.heap.objs.size = none := next_is_new F
    have hmem : (s.heap.objs.size, oI) ∈ own := hall _ (List.mem_cons_self ..) hI₀ oI hoI
    have zA' := N₁ (ax, oA) (List.mem_append_right _ (List.mem_cons_self ..))
    have hown : ∀ p ∈ own, p = (s.heap.objs.size, oI) ∨ p = (ax, oA) := fun p hp => by
      have h1 := hsub p hp
      have h2 := hget p hp
      rcases List.mem_cons.mp h1 with h1 | h1
      · rw [h1] at h2
        have h3 : some oI = some p.2 := hoI.symm.trans h2
        obtain ⟨p1, p2⟩ := p
        cases h1; cases h3; exact .inl rfl
      · have h1 := List.mem_singleton.mp h1
        rw [h1] at h2
        have h3 : some oA = some p.2 := zA'.1.symm.trans h2
        obtain ⟨p1, p2⟩ := p
        cases h1; cases h3; exact .inr rfl
    have hoff' : ∀ p ∈ (ax, oA) :: nw', p.1 ≠ s.heap.objs.size := fun p hp e => hoff p hp (List.mem_singleton.mpr e)
    refine wpAny_mono (turn i v m₁ nw' hh' tk' s.heap.objs.size oI (by simpa using hP) hJ hoff' F₁ ?_) (fun f s₂ p => ?_) fun _ _ e => e
    · intro p hp
      rcases List.mem_cons.mp hp with rfl | hp
      · exact N₁ _ (List.mem_append_left _ hmem)
      · exact N₁ p (List.mem_append_right _ hp)
    have fin : TEnd h₀ env.locals (fun m nw => ∃ nw', nw = (ax, oA) :: nw' ∧ J m₀ news (i + 1) m nw') s.heap.objs.size oI { s with heap := hh', toks := tk' } s₂ → LoopStepU h₀ env.locals [s.heap.objs.size] own (fun m nw => ∃ nw', nw = (ax, oA) :: nw' ∧ J m₀ news (i + 1) m nw') { s with heap := hh', toks := tk' } .next s₂ := by
      rintro ⟨h', tk, m', news', e, F', N', off, hm⟩
      refine ⟨rfl, h', tk, m', news', e, F', fun p hp => ?_, fun p hp hI => off p hp (List.mem_singleton.mp hI), hm⟩
      rcases List.mem_append.mp hp with hp | hp
      · rcases hown p hp with rfl | rfl
        · exact N' _ (List.mem_cons_self ..)
        · obtain ⟨nw'', rfl, _⟩ := hm
          exact N' _ (List.mem_cons_of_mem _ (List.mem_cons_self ..))
      · exact N' p (List.mem_cons_of_mem _ hp)
    cases f with
    | ret v => exact .ret p
    | brk => exact .brk p
    | next => exact .next (fin p)
    | cont => exact .cont (fin p)
  · rintro h' tk m' news' F' N' _ ⟨nw', rfl, hJ⟩
    exact done m' nw' h' tk (by simpa using hJ) F' (fun p hp => N' p (List.mem_cons_of_mem _ hp))
end
end Mine

end
section
open PySem PySem.W PyProof.Rows PySem.Spec PySem.Calls
namespace Mine
section
variable {prog : Program} {w : World} {A : Around} {E : Value → Shared → Prop} {s : Shared} {h₀ : Heap} {L : Addr} {m : Str → Option Value} {env : Env}




end
end Mine

end
section
open PySem PySem.W PyProof.Rows
namespace Mine
end Mine

end
section
open PySem PySem.W PyProof.Rows PySem.Spec PySem.Calls
namespace Mine
/-- a claim of a def whose call may change the ledger -/
abbrev ClaimP (k : Nat) (prog : Program) (w : World) (K : Frag) (p : Program) (loose : List Str) (mean : ExcName → Option Value) (mg mb : Str → Option Value) (f : Addr) (news : List (Addr × Obj)) (vs : List Value) (Post : Value → List (Addr × Obj) → Prop) : Prop :=
  ∀ (dp un : Nat) (gd : Option (List Code)) (cn : Str) (cs : Scope) (a : Addr) (ccd : Value) (cl : List (Str × Addr)) (outer : List Env) (A₀ : Around) (base h₀ : Heap) (L : Addr) (m : Str → Option Value) (s : Shared) (Q E : Value → Shared → Prop),
    Below A₀ base outer h₀ → Fr h₀ L s.heap m → K.In h₀ → News h₀ L s.heap news → Top p loose mean mg mb h₀ → cs.kind = .function →
    dp + k < recursionLimit → un + 8 * k < cLine → (∀ (v : Value) (h' : Heap) (tk' : Nat) (news' : List (Addr × Obj)), Post v news' → Fr h₀ L h' m → News h₀ L h' news' → Q v { s with heap := h', toks := tk' }) →
      wpAny (model prog w) (ktrTop dp un gd cn cs L a ccd cl outer) (call (.ref f) vs) Q E s
theorem claimP_use {k : Nat} {prog : Program} {w : World} {K : Frag} {p : Program} {loose : List Str} {mean : ExcName → Option Value} {mg mb : Str → Option Value} {f : Addr} {news all : List (Addr × Obj)} {vs : List Value} {Post : Value → List (Addr × Obj) → Prop}
    {dp un : Nat} {gd : Option (List Code)} {cn : Str} {cs : Scope} {a : Addr} {ccd : Value} {cl : List (Str × Addr)} {outer : List Env} {A₀ : Around} {base h₀ : Heap} {L : Addr} {m : Str → Option Value} {s : Shared} {Q E : Value → Shared → Prop}
    (C : ClaimP k prog w K p loose mean mg mb f news vs Post) (B : Below A₀ base outer h₀) (F : Fr h₀ L s.heap m) (X : K.In h₀) (N : News h₀ L s.heap all) (sub : ∀ p ∈ news, p ∈ all) (T : Top p loose mean mg mb h₀) (hk : cs.kind = .function)
    (hd : dp + k < recursionLimit) (hu : un + 8 * k < cLine) (ret : ∀ (v : Value) (h' : Heap) (tk' : Nat) (news' : List (Addr × Obj)), Post v news' → Fr h₀ L h' m → News h₀ L h' news' → Q v { s with heap := h', toks := tk' }) :
    wpAny (model prog w) (ktrTop dp un gd cn cs L a ccd cl outer) (call (.ref f) vs) Q E s := C _ _ _ _ _ _ _ _ _ _ _ _ _ _ _ _ _ B F X (fun p hp => N p (sub p hp)) T hk hd hu ret

section
variable {prog : Program} {w : World} {A : Around} {E : Value → Shared → Prop} {s : Shared} {Q : Value → Shared → Prop}
theorem ne_nil_no {l b : Addr} {xs ys : Array Value} (hl : s.heap.IsList l xs) (hb : s.heap.IsList b ys) (e1 : xs.size = 0) (e2 : ys.size = 0) (hu : A.units < cLine) (h : Q (.bool false) s) :
    wpAny (model prog w) A (compareOp .NotEq (.ref l) (.ref b)) Q E s := by
  refine SeqAt.RcNeAt.lists (e := fun _ => true) hl hb (by omega) hu (fun j h1 _ => by omega) prog w E Q ?_
  rw [e1]; exact h
theorem ne_nil_yes {l b : Addr} {xs ys : Array Value} (hl : s.heap.IsList l xs) (hb : s.heap.IsList b ys) (e1 : xs.size ≠ 0) (e2 : ys.size = 0) (hu : A.units < cLine) (h : Q (.bool true) s) :
    wpAny (model prog w) A (compareOp .NotEq (.ref l) (.ref b)) Q E s :=
  SeqAt.RcNeAt.lists_lengths hl hb (by rw [e2]; simpa using e1) hu prog w E Q h
theorem last_item {value slice : PySem.Expr} {a : Addr} {vs : List Value} {x : Value} {u : Tok} (hl : s.heap.IsList a (vs ++ [x]).toArray) (hn : vs.length ≤ 1000000) (h : Q x s)
    (hs : subscripted slice false (.ref a) (.int (-1) u) = operate [.ref a, .int (-1) u] (getItem (.ref a) (.int (-1) u)) := by with_unfolding_all rfl) (hg : ∀ r, letTemporaryGo value (.ref a) r = pure () := by intro _; with_unfolding_all rfl) :
    wpAny (model prog w) A (subscriptTail value slice (.ref a) (.int (-1) u)) Q E s := by
  have hi : (-1 + ((vs ++ [x]).length : Int)).toNat = vs.length := by simp; omega
  have hx : (vs ++ [x])[(-1 + ((vs ++ [x]).length : Int)).toNat]? = some x := by rw [hi]; simp
  exact subscriptTail_builtin hl.typeIs slot_list_getitem.lookup (wpAny_getItem_list_neg hl (by decide) (by simp; omega) (by decide) (by rw [List.size_toArray, List.getElem?_toArray]; exact hx) h) hs hg
end
end Mine

end
section
open PySem PySem.W PyProof.Rows PySem.Spec PySem.Calls
namespace Mine
section
variable {prog : Program} {w : World} {A : Around} {E : Value → Shared → Prop} {s : Shared} {env : Env} {h₀ : Heap} {x : Str} {body : List Stmt} {Q : Flow → Shared → Prop}
/-- a loop over a list of the ledger that nobody changes -/
theorem iter_mem {ax : Addr} {oA : Obj} {vs : List Value} {m₀ : Str → Option Value} {news : List (Addr × Obj)} (J : Inv)
    (hh : A.handled = none) (F : Fr h₀ env.locals s.heap m₀) (N : News h₀ env.locals s.heap news) (hl : s.heap.IsList ax vs.toArray) (hJm : ∀ i m nw, J m₀ news i m nw → (ax, oA) ∈ nw) (hj : J m₀ news 0 m₀ news)
    (turn : ∀ i v m₁ news₁ h tk I oI, vs[i]? = some v → J m₀ news i m₁ news₁ → (∀ p ∈ news₁, p.1 ≠ I) → Fr h₀ env.locals h (fun z => if z = x then some v else m₁ z) → News h₀ env.locals h ((I, oI) :: news₁) →
      wpAny (model prog w) A (execs body env) (TPost h₀ env.locals (J m₀ news (i + 1)) I oI { s with heap := h, toks := tk } Q) E { s with heap := h, toks := tk })
    (done : ∀ m₁ news₁ h tk, J m₀ news vs.length m₁ news₁ → Fr h₀ env.locals h m₁ → News h₀ env.locals h news₁ → Q .next { s with heap := h, toks := tk }) :
    wpAny (model prog w) A (pyIter (.ref ax)) (fun it s₂ => LoopAtV prog w A h₀ env x body Q E it s₂) E s := by
  have hlt : ax < s.heap.objs.size := by obtain ⟨_, e, _⟩ := hl; exact Heap.lt_size e
  have hmA := hJm _ _ _ hj
  have zA := N (ax, oA) hmA
  refine wpAny_pyIter_list hl ?_
  have W := Walks.list (prog := prog) (w := w) hh s.heap.objs.size ax (Nat.ne_of_lt hlt) vs.toArray
  refine ⟨_, _, _, vs.toArray.size, _, _, m₀, news, (fun i m nw => J m₀ news i m nw), rfl, W, ?_, ?_, ?_, ⟨⟨_, Heap.get?_push_size _ rfl, rfl, rfl⟩, hl.push _⟩, F.push _, (fun p hp => ⟨Heap.get?_push_of_some _ (N p hp).1, (N p hp).2⟩), hj, ?_, ?_⟩
  · intro hm
    rcases List.mem_cons.mp hm with h | h
    · exact absurd F.ns.lt (h ▸ Nat.lt_irrefl _)
    · exact zA.2.1 (List.mem_singleton.mp h).symm
  · intro b hb
    rw [List.mem_singleton.mp hb]
    exact next_is_new F
  · intro p hp hI
    exact absurd (Heap.lt_size (N p hp).1) ((List.mem_singleton.mp hI) ▸ Nat.lt_irrefl _)
  · rintro i v m₁ news₁ s₁ own ⟨hh', tk', rfl⟩ hin hP hJ hoff hsub hget hall hst₁ F₁ N₁
    obtain ⟨oI, hoI⟩ : ∃ oI, hh'.get? s.heap.objs.size = some oI := by obtain ⟨o, e, _⟩ := hst₁.1; exact ⟨o, e⟩
    have hI₀ : h₀.get? s.heap.objs.size = none := next_is_new F
    have hmem : (s.heap.objs.size, oI) ∈ own := hall _ (List.mem_cons_self ..) hI₀ oI hoI
    have zA' := N₁ (ax, oA) (List.mem_append_right _ (hJm _ _ _ hJ))
    have hown : ∀ p ∈ own, p = (s.heap.objs.size, oI) ∨ p = (ax, oA) := fun p hp => by
      have h1 := hsub p hp
      have h2 := hget p hp
      rcases List.mem_cons.mp h1 with h1 | h1
      · rw [h1] at h2
        have h3 : some oI = some p.2 := hoI.symm.trans h2
        obtain ⟨p1, p2⟩ := p
        cases h1; cases h3; exact .inl rfl
      · have h1 := List.mem_singleton.mp h1
        rw [h1] at h2
        have h3 : some oA = some p.2 := zA'.1.symm.trans h2
        obtain ⟨p1, p2⟩ := p
        cases h1; cases h3; exact .inr rfl
    have hoff' : ∀ p ∈ news₁, p.1 ≠ s.heap.objs.size := fun p hp e => hoff p hp (List.mem_singleton.mpr e)
    refine wpAny_mono (turn i v m₁ news₁ hh' tk' s.heap.objs.size oI (by simpa using hP) hJ hoff' F₁ ?_) (fun f s₂ p => ?_) fun _ _ e => e
    · intro p hp
      rcases List.mem_cons.mp hp with rfl | hp
      · exact N₁ _ (List.mem_append_left _ hmem)
      · exact N₁ p (List.mem_append_right _ hp)
    have fin : TEnd h₀ env.locals (J m₀ news (i + 1)) s.heap.objs.size oI { s with heap := hh', toks := tk' } s₂ → LoopStepU h₀ env.locals [s.heap.objs.size] own (J m₀ news (i + 1)) { s with heap := hh', toks := tk' } .next s₂ := by
      rintro ⟨h', tk, m', news', e, F', N', off, hm⟩
      refine ⟨rfl, h', tk, m', news', e, F', fun p hp => ?_, fun p hp hI => off p hp (List.mem_singleton.mp hI), hm⟩
      rcases List.mem_append.mp hp with hp | hp
      · rcases hown p hp with rfl | rfl
        · exact N' _ (List.mem_cons_self ..)
        · exact N' _ (List.mem_cons_of_mem _ (hJm _ _ _ hm))
      · exact N' p (List.mem_cons_of_mem _ hp)
    cases f with
    | ret v => exact .ret p
    | brk => exact .brk p
    | next => exact .next (fin p)
    | cont => exact .cont (fin p)
  · rintro h' tk m' news' F' N' _ hJ
    exact done m' news' h' tk (by simpa using hJ) F' N'
/-- a text, or a list of texts of one sign -/
def Signs (v : Value) (l : List Nat) (rest : List (Addr × Obj)) : Prop :=
  (∃ t, v = .str (tx l) t) ∨ ∃ ax vs n, v = .ref ax ∧ (ax, W.listOf vs.toArray n) ∈ rest ∧ All2 (fun c y => ∃ t, y = Value.str (tx [c]) t) l vs
theorem all2_at {α β : Type} {R : α → β → Prop} : ∀ {l : List α} {r : List β}, All2 R l r → ∀ {i : Nat} {v : β}, r[i]? = some v → ∃ a, l[i]? = some a ∧ R a v
  | _, _, .nil, i, v, h => by simp at h
  | _, _, .cons h _, 0, v, e => by simp at e; subst e; exact ⟨_, rfl, h⟩
  | _, _, .cons _ t, i + 1, v, e => by
    rw [List.getElem?_cons_succ] at e ⊢
    exact all2_at t e
theorem iter_signs {v : Value} {l : List Nat} {rest : List (Addr × Obj)} {m₀ : Str → Option Value} {news : List (Addr × Obj)} (J : Inv) (hv : Signs v l rest)
    (hh : A.handled = none) (F : Fr h₀ env.locals s.heap m₀) (N : News h₀ env.locals s.heap news) (hJr : ∀ i m nw, J m₀ news i m nw → ∀ p ∈ rest, p ∈ nw) (hj : J m₀ news 0 m₀ news)
    (turn : ∀ i c u m₁ news₁ h tk I oI, l[i]? = some c → J m₀ news i m₁ news₁ → (∀ p ∈ news₁, p.1 ≠ I) → Fr h₀ env.locals h (fun z => if z = x then some (.str ⟨#[c]⟩ u) else m₁ z) → News h₀ env.locals h ((I, oI) :: news₁) →
      wpAny (model prog w) A (execs body env) (TPost h₀ env.locals (J m₀ news (i + 1)) I oI { s with heap := h, toks := tk } Q) E { s with heap := h, toks := tk })
    (done : ∀ m₁ news₁ h tk, J m₀ news l.length m₁ news₁ → Fr h₀ env.locals h m₁ → News h₀ env.locals h news₁ → Q .next { s with heap := h, toks := tk }) :
    wpAny (model prog w) A (pyIter v) (fun it s₂ => LoopAtV prog w A h₀ env x body Q E it s₂) E s := by
  rcases hv with ⟨t, rfl⟩ | ⟨ax, vs, n, rfl, hm, h2⟩
  · exact iter_str J hh F N hj turn done
  · refine iter_mem (ax := ax) (oA := W.listOf vs.toArray n) (vs := vs) J hh F N ?_ (fun i m nw h => hJr i m nw h _ hm) hj ?_ ?_
    · exact ⟨_, (N _ (hJr _ _ _ hj _ hm)).1, rfl, _, rfl⟩
    · intro i v m₁ news₁ h tk I oI hi hJ off F' N'
      obtain ⟨c, hc, t, rfl⟩ := all2_at h2 hi
      exact turn i c t m₁ news₁ h tk I oI hc hJ off F' N'
    · intro m₁ news₁ h tk hJ F' N'
      rw [h2.len] at hJ
      exact done m₁ news₁ h tk hJ F' N'
end
end Mine

end
section
open PySem PySem.W PyProof.Rows PySem.Spec PySem.Calls
namespace Mine
theorem News.sub {h₀ h : Heap} {L : Addr} {all nw : List (Addr × Obj)} (N : News h₀ L h all) (sub : ∀ p ∈ nw, p ∈ all) : News h₀ L h nw := fun p hp => N p (sub p hp)
theorem swap_sub {α : Type} {a b : α} {l : List α} : ∀ p ∈ a :: b :: l, p ∈ b :: a :: l := by
  intro p hp
  rcases List.mem_cons.mp hp with rfl | hp
  · exact .tail _ (.head _)
  · rcases List.mem_cons.mp hp with rfl | hp
    · exact .head _
    · exact .tail _ (.tail _ hp)
section
variable {prog : Program} {w : World} {A : Around} {E : Value → Shared → Prop} {s : Shared} {h₀ : Heap} {L : Addr} {m : Str → Option Value}
end
theorem mapRead1 {m₀ : Str → Option Value} {v0 v1 b b' : Option Value} : (fun y => if y = Str.ofString "held" then b' else if y = Str.ofString "sign" then v1 else (fun y => if y = Str.ofString "sign" then v0 else if y = Str.ofString "held" then b else m₀ y) y) =
    fun y => if y = Str.ofString "sign" then v1 else if y = Str.ofString "held" then b' else m₀ y := by
  have d1 : Str.ofString "held" ≠ Str.ofString "sign" := by decide
  funext y
  by_cases h1 : y = Str.ofString "held"
  · subst h1; simp [d1]
  · by_cases h2 : y = Str.ofString "sign"
    · subst h2; simp [h1]
    · simp [h1, h2]
theorem mapRead2 {m₀ : Str → Option Value} {v0 v1 b : Option Value} : (fun y => if y = Str.ofString "sign" then v1 else (fun y => if y = Str.ofString "sign" then v0 else if y = Str.ofString "held" then b else m₀ y) y) =
    fun y => if y = Str.ofString "sign" then v1 else if y = Str.ofString "held" then b else m₀ y := by
  funext y
  by_cases h2 : y = Str.ofString "sign"
  · subst h2; simp
  · simp [h2]
end Mine

end
section
open PySem PySem.W PyProof.Rows PySem.Spec PySem.Calls
namespace Mine.P
section
variable {prog : Program} {w : World} {A : Around} {E : Value → Shared → Prop} {s : Shared} {h₀ : Heap} {L : Addr} {m : Str → Option Value} {env : Env} {R : Result → Shared → Prop}
theorem go_list {target : Expr} {I l : Addr} {v : Value} {i : Nat} {Q : Unit → Shared → Prop} (hit : s.heap.IsListIter I l i) (hQ : Q () s) : wpAny (model prog w) A (letOwnedTupleGo target (.ref I) v) Q E s := by
  obtain ⟨o, ho, hc, hd⟩ := hit
  have key : ∀ T : Addr, wpAny (model prog w) A (do
      let o ← load I
      match o.cls, o.data with
      | .type n, .fields vs =>
        if (["enumerate", "zip", "dict_itemiterator", "dict_reverseitemiterator", "odict_iterator", "itertools.zip_longest", "itertools.pairwise"].contains n && vs[0]? == some (rawInt T)) = true then (do rule "for.unpacks-the-owned-tuple"; updateField I 0 .none) else pure ()
      | _, _ => pure ()) Q E s := by
    intro T
    refine wpAny_bind (wpAny_load ho ?_)
    rw [hc, hd]
    dsimp only
    rw [if_neg (by
      intro h
      rw [show (["enumerate", "zip", "dict_itemiterator", "dict_reverseitemiterator", "odict_iterator", "itertools.zip_longest", "itertools.pairwise"].contains "list_iterator") = false from by decide, Bool.false_and] at h
      cases h)]
    exact wpAny_pure hQ
  unfold letOwnedTupleGo
  cases target
  all_goals first
    | exact wpAny_pure hQ
    | (cases v
       all_goals first
         | exact wpAny_pure hQ
         | exact key _)
theorem loopP {elt target iter : Expr} {ifs : List Expr} {scope : Scope} {pos : Pos} {it acc : Value} {env : Env} (I : Nat → Shared → Prop)
    (turn : ∀ n s, I n s → wpAny (model prog w) A (pyNext it) (fun r s₁ => match r with
      | none => R (.ok .next) s₁
      | some v => wpAny (model prog w) A (letOwnedTupleGo target it v) (fun _ s₀ => wpAny (model prog w) A (assign target env v) (fun _ s₂ =>
          wpAny (model prog w) A (testsOf ifs env) (fun ok s₃ =>
            if ok = true then wpAny (model prog w) A (eval elt env) (fun x s₄ =>
              wpAny (model prog w) A (call (.builtin "list.append") [acc, x]) (fun _ s₅ => ∃ m, m < n ∧ I m s₅) (notedBy (model prog w) A env fun e s' => R (.error e) s') s₄) (notedBy (model prog w) A env fun e s' => R (.error e) s') s₃
            else ∃ m, m < n ∧ I m s₃) (notedBy (model prog w) A env fun e s' => R (.error e) s') s₂) (notedBy (model prog w) A env fun e s' => R (.error e) s') s₀) (notedBy (model prog w) A env fun e s' => R (.error e) s') s₁) (notedBy (model prog w) A env fun e s' => R (.error e) s') s)
    (n : Nat) (h : I n s) : codeAny (model prog w) A (.compLoop (.ListComp elt [⟨target, iter, ifs, 0⟩] scope pos) 0 it acc env) R s := by
  refine codeAny_loop rfl I (fun n s hI => ?_) n h
  show wpAny _ A ((compTurn (.ListComp elt [⟨target, iter, ifs, 0⟩] scope pos) 0 it acc env).onRaise (fun x => do noteFrame x env; theTreesLotGoes x)) _ _ s
  refine wpAny_noted ?_
  rw [compTurn_list]
  refine wpAny_bind (wpAny_standAt (wpAny_bind (wpAny_mono (turn n s hI) (fun r s₁ h₁ => ?_) fun _ _ h' => h')))
  cases r with
  | none => exact wpAny_pure h₁
  | some v =>
    refine wpAny_bind (wpAny_mono h₁ (fun _ s₀ h₀' => ?_) fun _ _ h' => h')
    refine wpAny_bind (wpAny_mono h₀' (fun _ s₂ h₂ => wpAny_bind (wpAny_mono h₂ (fun ok s₃ h₃ => ?_) fun _ _ h' => h')) fun _ _ h' => h')
    cases ok with
    | false => exact wpAny_pure ⟨rfl, h₃⟩
    | true =>
      exact wpAny_bind (wpAny_bind (wpAny_mono h₃ (fun x s₄ h₄ => wpAny_bind (wpAny_mono h₄ (fun _ s₅ h₅ => wpAny_pure (wpAny_pure ⟨rfl, h₅⟩)) fun _ _ h' => h')) fun _ _ h' => h'))
theorem block_G {elt target iter : Expr} {ifs : List Expr} {scope : Scope} {cl : List (Str × Addr)} {pos : Pos} {I : Addr} {fp : List Addr} {n : Nat} {P : Nat → Value → Prop} {St : Nat → Heap → Prop} {S : List (Addr × Obj) → Prop} {news : List (Addr × Obj)} {RR : Value → Addr → Result → Shared → Prop}
    (J : Nat → List Value → List (Addr × Obj) → Nat → Prop)
    (W : Walks prog w A I fp [I] n P St) (hsz : n ≤ sizeLine) (hIo : ∀ i h, St i h → ∃ o, h.get? I = some o)
    (hSt : ∀ i h h' o nw, St i h → h.get? I = some o → h'.get? I = some o → (∀ b o, h₀.get? b = some o → h'.get? b = some o) → News h₀ L h' nw → S nw → St i h')
    (hJS : ∀ i ys nw t, J i ys nw t → S nw) (hJl : ∀ i ys nw t, J i ys nw t → ys.length ≤ i) (hJt : ∀ i ys nw t t', J i ys nw t → t ≤ t' → J i ys nw t')
    (hcell : ∀ y ∈ scope.names, y.2 ≠ .cell) (hkind : scope.kind = .function) (hst : St 0 s.heap) (hfp : ∀ b ∈ fp, b < s.heap.objs.size)
    (F : Fr h₀ L s.heap m) (N : News h₀ L s.heap news) (hIL : L ≠ I) (hI₀ : h₀.get? I = none) (off : ∀ p ∈ news, p.1 ≠ I) (hJ : J 0 [] news s.toks)
    (turn : GTurn prog w A h₀ L m env elt target ifs scope cl s n P J) (hgo : ∀ i (s' : Shared) v (Q' : Unit → Shared → Prop) (E' : Value → Shared → Prop), St i s'.heap → Q' () s' → wpAny (model prog w) A (letOwnedTupleGo target (.ref I) v) Q' E' s')
    (hRR : ∀ D C h tk m' ys news', Fr h₀ L h m → News h₀ L h ((D, LCg.lst ys) :: news') → LCg.Off1 D news' → h.Ns C m' → h₀.get? C = none → C ≠ L → C ≠ D → (∀ p ∈ news', p.1 ≠ C) → J n ys news' tk → RR (.ref D) C (.ok .next) { s with heap := h, toks := tk }) :
    wpAny (model prog w) A (newList []) (fun acc s₃ => wpAny (model prog w) A (newFunctionEnv scope env.globals cl [] env.qual none .none (some env)) (fun cenv s₄ =>
      codeAny (model prog w) A (.compStart (.ListComp elt [⟨target, iter, ifs, 0⟩] scope pos) 0 (.ref I) acc { cenv with scope := relabel scope env }) (RR acc cenv.locals) s₄) E s₃) E s := by
  refine wpAny_newObj_type (wpAny_newFunctionEnv hcell (by intro y hy; simp at hy) (fun h₁ hns₁ hsb₁ => ?_) hkind)
  dsimp only at hns₁ hsb₁ ⊢
  generalize hH2 : s.heap.push { cls := .type "list", dict := none, data := .seq ([] : List Value).toArray } = H2 at hns₁ hsb₁ ⊢
  have hC : H2.objs.size = s.heap.objs.size + 1 := by rw [← hH2, Heap.size_push]
  generalize hD : s.heap.objs.size = D at *
  generalize hCC : H2.objs.size = C at *
  have hDC : D ≠ C := by rw [hC]; exact Nat.ne_of_lt (Nat.lt_succ_self _)
  have hIf : I ∈ fp := W.sub I (List.mem_singleton.mpr rfl)
  have lt : ∀ b, b < D → b ≠ C ∧ b ≠ D := fun b hb => ⟨by rw [hC]; exact Nat.ne_of_lt (Nat.lt_succ_of_lt hb), Nat.ne_of_lt hb⟩
  have hgone : ∀ a, D ≤ a → h₀.get? a = none := fun a ha => by
    cases e : h₀.get? a with
    | none => rfl
    | some o => have := Heap.lt_size (F.keep a o e); rw [hD] at this; exact absurd this (Nat.not_lt.mpr ha)
  have hD₀ := hgone D (Nat.le_refl _)
  have hC₀ := hgone C (by rw [hC]; exact Nat.le_succ _)
  have hLlt : L < D := by rw [← hD]; exact F.ns.lt
  have hDL : D ≠ L := Ne.symm (lt L hLlt).2
  have hCL : C ≠ L := Ne.symm (lt L hLlt).1
  have hIC : I ≠ C := (lt I (hfp I hIf)).1
  have hID : I ≠ D := (lt I (hfp I hIf)).2
  have hCf : C ∉ fp := fun q => (lt C (hfp C q)).1 rfl
  have hDf : D ∉ fp := fun q => Nat.lt_irrefl _ (hfp D q)
  have old : ∀ b o, s.heap.get? b = some o → h₁.get? b = some o := fun b o e => by
    have hb : b < D := by rw [← hD]; exact Heap.lt_size e
    exact hsb₁.extBut b o (lt b hb).1 (Heap.get?_push_of_some _ (hH2 ▸ Heap.get?_push_of_some _ e))
  have hacc : h₁.get? D = some (LCg.lst []) := hsb₁.extBut _ _ hDC (Heap.get?_push_of_some _ (by rw [← hH2, ← hD]; exact Heap.get?_push_size _ rfl))
  obtain ⟨oC₀, heC₀, hoC₀⟩ := LCg.ns_obj hns₁
  have loop : ∀ s₃ : Shared, s₃ = { s with heap := h₁, toks := s.toks + ([] : List (Str × Value)).length } →
      codeAny (model prog w) A (.compLoop (.ListComp elt [⟨target, iter, ifs, 0⟩] scope pos) 0 (.ref I) (.ref D) (compEnvC scope cl C env)) (RR (.ref D) C) s₃ := by
    rintro s₃ rfl
    refine loopP
      (fun k s' => ∃ h' tk i ys m' news' oC, s' = { s with heap := h', toks := tk } ∧ i ≤ n ∧ k = n + 1 - i ∧ St i h' ∧ Fr h₀ L h' m ∧ LCg.NsObj oC m' ∧ News h₀ L h' ((C, oC) :: (D, LCg.lst ys) :: news') ∧
        LCg.Off3 I C D news' ∧ J i ys news' tk) ?_ (n + 1)
      ⟨h₁, _, 0, [], _, news, oC₀, rfl, Nat.zero_le _, rfl, W.frame _ _ _ hst (fun b _ o e => old b o e), F.keeps old, hoC₀, ?_, ?_, hJ⟩
    · rintro k s' ⟨h', tk, i, ys, m', news', oC, rfl, hi, rfl, hst', F', hC', N', off', hJ'⟩
      have off3 := off'.mem
      have hN : ∀ h₂ : Heap, (∀ b o, b ∉ [I] → h'.get? b = some o → h₂.get? b = some o) → Fr h₀ L h₂ m ∧ News h₀ L h₂ ((C, oC) :: (D, LCg.lst ys) :: news') := fun h₂ hk₂ => by
        refine ⟨LCg.fr_but F' hk₂ hIL hI₀, LCg.news_but N' hk₂ fun p hp => ?_⟩
        rcases List.mem_cons.mp hp with rfl | hp
        · exact Ne.symm hIC
        · rcases List.mem_cons.mp hp with rfl | hp
          · exact Ne.symm hID
          · exact (off3 p hp).1
      by_cases hlt : i < n
      · refine wpAny_toks (W.item i _ _ _ hlt hst' fun v h₂ tk₂ hPv hst₂ hk₂ hle => ?_)
        obtain ⟨F₂, N₂⟩ := hN h₂ hk₂
        obtain ⟨oI, heI⟩ := hIo _ _ hst₂
        have N₂' : News h₀ L h₂ ((I, oI) :: (C, oC) :: (D, LCg.lst ys) :: news') := fun p hp => by
          rcases List.mem_cons.mp hp with rfl | hp
          · exact ⟨heI, Ne.symm hIL, hI₀⟩
          · exact N₂ p hp
        have stays : ∀ h₃ news₃ oC₃ i' ys', News h₀ L h₃ ((I, oI) :: (C, oC₃) :: (D, LCg.lst ys) :: news₃) → Fr h₀ L h₃ m → (∃ t, J i' ys' news₃ t) → St (i + 1) h₃ := fun h₃ news₃ oC₃ i' ys' N₃ F₃ hJ₃ => by
          obtain ⟨t, hJ₃⟩ := hJ₃
          exact hSt _ _ _ _ _ hst₂ heI (N₃ _ (List.mem_cons_self ..)).1 F₃.keep (fun p hp => N₃ p (List.mem_cons_of_mem _ (List.mem_cons_of_mem _ (List.mem_cons_of_mem _ hp)))) (hJS _ _ _ _ hJ₃)
        refine hgo (i + 1) _ v _ _ hst₂ ?_
        refine wpAny_mono (turn i v ys news' I oI C oC D m' h₂ tk tk₂ _ hlt hPv hJ' hle hC' F₂ N₂' off' ⟨hIC, hID, Ne.symm hDC⟩ hCL) (fun _ s₃ h₃ => ?_) fun _ _ e => e
        refine wpAny_mono h₃ (fun ok s₄ h₄ => ?_) fun _ _ e => e
        cases ok with
        | false =>
          simp only [Bool.false_eq_true, if_false] at h₄ ⊢
          obtain ⟨h₅, tk₅, oC₅, m₅, news₅, rfl, F₅, N₅, off₅, hC₅, hJ₅⟩ := h₄
          exact ⟨n + 1 - (i + 1), by omega, h₅, tk₅, i + 1, ys, m₅, news₅, oC₅, rfl, hlt, rfl, stays _ _ _ _ _ N₅ F₅ ⟨_, hJ₅⟩, F₅, hC₅, fun p hp => N₅ p (List.mem_cons_of_mem _ hp), off₅, hJ₅⟩
        | true =>
          simp only [if_true] at h₄ ⊢
          refine wpAny_mono h₄ (fun y s₅ h₅ => ?_) fun _ _ e => e
          obtain ⟨h₅, tk₅, oC₅, m₅, news₅, rfl, F₅, N₅, off₅, hC₅, hJ₅⟩ := h₅
          have zD := (N₅ (D, LCg.lst ys) (List.mem_cons_of_mem _ (List.mem_cons_of_mem _ (List.mem_cons_self ..)))).1
          have hst₅ := stays _ _ _ _ _ N₅ F₅ ⟨_, hJ₅⟩
          refine append_at (hsz := by show ys.toArray.size ≤ sizeLine; rw [List.size_toArray]; have := hJl _ _ _ _ hJ'; omega) zD fun h₆ hs₆ hD₆ => ?_
          have o5 := off₅.mem
          refine ⟨n + 1 - (i + 1), by omega, h₆, tk₅, i + 1, ys ++ [y], m₅, news₅, oC₅, rfl, hlt, rfl, W.frame _ _ _ hst₅ (fun b hb o e => hs₆.extBut b o (fun q => hDf (q ▸ hb)) e), F₅.change hs₆ hDL hD₀, hC₅, fun p hp => ?_, off₅, hJ₅⟩
          rcases List.mem_cons.mp hp with rfl | hp
          · have z := N₅ (C, oC₅) (List.mem_cons_of_mem _ (List.mem_cons_self ..))
            exact ⟨hs₆.extBut _ _ (Ne.symm hDC) z.1, z.2⟩
          · rcases List.mem_cons.mp hp with rfl | hp
            · exact ⟨hD₆.trans (congrArg some (LCg.lst_snoc ys y)), hDL, hD₀⟩
            · have z := N₅ p (List.mem_cons_of_mem _ (List.mem_cons_of_mem _ (List.mem_cons_of_mem _ hp)))
              exact ⟨hs₆.extBut _ _ (o5 p hp).2.2 z.1, z.2⟩
      · obtain rfl : i = n := Nat.le_antisymm hi (Nat.not_lt.mp hlt)
        refine wpAny_toks (W.done _ _ _ hst' fun h₂ tk₂ hk₂ hle => ?_)
        obtain ⟨F₂, N₂⟩ := hN h₂ hk₂
        exact hRR D C h₂ tk₂ m' ys news' F₂ (fun p hp => N₂ p (List.mem_cons_of_mem _ hp)) off'.one (hC'.ns (N₂ _ (List.mem_cons_self ..)).1) hC₀ hCL (Ne.symm hDC) (fun p hp => (off3 p hp).2.1) (hJt _ _ _ _ _ hJ' hle)
    · intro p hp
      rcases List.mem_cons.mp hp with rfl | hp
      · exact ⟨heC₀, hCL, hC₀⟩
      · rcases List.mem_cons.mp hp with rfl | hp
        · exact ⟨hacc, hDL, hD₀⟩
        · exact ⟨old _ _ (N p hp).1, (N p hp).2⟩
    · exact LCg.Off3.of fun p hp => by
        have hb : p.1 < D := by rw [← hD]; exact Heap.lt_size (N p hp).1
        exact ⟨off p hp, (lt _ hb).1, (lt _ hb).2⟩
  exact codeAny_compStart_list (loop _ rfl) (W.self 0 _ _ _ (W.frame _ _ _ hst fun b _ o e => old b o e) (loop _ rfl))



def CompAtM (prog : Program) (w : World) (A : Around) (h₀ : Heap) (L : Addr) (m : Str → Option Value) (env : Env) (elt target : Expr) (ifs : List Expr) (scope : Scope) (cl : List (Str × Addr)) (mf : Addr → Str → Option Value) (Q : Value → Shared → Prop) (it : Value) (s : Shared) : Prop :=
  ∃ (I : Addr) (fp : List Addr) (n : Nat) (P : Nat → Value → Prop) (St : Nat → Heap → Prop) (S : List (Addr × Obj) → Prop) (news : List (Addr × Obj)) (J : Nat → List Value → List (Addr × Obj) → Nat → Prop), it = .ref I ∧ Walks prog w A I fp [I] n P St ∧ n ≤ sizeLine ∧ (∀ i h, St i h → ∃ o, h.get? I = some o) ∧
    (∀ i h h' o nw, St i h → h.get? I = some o → h'.get? I = some o → (∀ b o, h₀.get? b = some o → h'.get? b = some o) → News h₀ L h' nw → S nw → St i h') ∧
    (∀ i ys nw t, J i ys nw t → S nw) ∧ (∀ i ys nw t, J i ys nw t → ys.length ≤ i) ∧ (∀ i ys nw t t', J i ys nw t → t ≤ t' → J i ys nw t') ∧
    St 0 s.heap ∧ (∀ b ∈ fp, b < s.heap.objs.size) ∧ Fr h₀ L s.heap m ∧ News h₀ L s.heap news ∧ L ≠ I ∧ h₀.get? I = none ∧ (∀ p ∈ news, p.1 ≠ I) ∧ J 0 [] news s.toks ∧
    GTurn prog w A h₀ L m env elt target ifs scope cl s n P J ∧ (∀ i (s' : Shared) v (Q' : Unit → Shared → Prop) (E' : Value → Shared → Prop), St i s'.heap → Q' () s' → wpAny (model prog w) A (letOwnedTupleGo target (.ref I) v) Q' E' s') ∧
    ∀ D h tk ys news', J n ys news' tk → Fr h₀ L h (mf D) → News h₀ L h ((D, LCg.lst ys) :: news') → LCg.Off1 D news' → Q (.ref D) { s with heap := h, toks := tk }



theorem compM_list {ax : Addr} {vs : List Value} {elt target : Expr} {ifs : List Expr} {scope : Scope} {cl : List (Str × Addr)} {mf : Addr → Str → Option Value} {Q : Value → Shared → Prop} {news : List (Addr × Obj)} (J : Nat → List Value → List (Addr × Obj) → Nat → Prop)
    (hh : A.handled = none) (F : Fr h₀ L s.heap m) (N : News h₀ L s.heap news) (hJS : ∀ i ys nw t, J i ys nw t → LCg.SrcAt h₀ ax vs.toArray nw) (hsz : vs.length ≤ sizeLine)
    (hJl : ∀ i ys nw t, J i ys nw t → ys.length ≤ i) (hJt : ∀ i ys nw t t', J i ys nw t → t ≤ t' → J i ys nw t') (hJ : J 0 [] news s.toks)
    (turn : ∀ s' : Shared, (∃ h, s' = { s with heap := h }) → GTurn prog w A h₀ L m env elt target ifs scope cl s' vs.length (fun i v => vs[i]? = some v) J)
    (fin : ∀ D h tk ys news', J vs.length ys news' tk → Fr h₀ L h (mf D) → News h₀ L h ((D, LCg.lst ys) :: news') → LCg.Off1 D news' → Q (.ref D) { s with heap := h, toks := tk }) :
    wpAny (model prog w) A (pyIter (.ref ax)) (fun it s₂ => CompAtM prog w A h₀ L m env elt target ifs scope cl mf Q it s₂) E s := by
  have hl := (hJS _ _ _ _ hJ).list F.keep N
  have hlt : ax < s.heap.objs.size := by obtain ⟨_, e, _⟩ := hl; exact Heap.lt_size e
  refine wpAny_pyIter_list hl ?_
  have W := Walks.list (prog := prog) (w := w) hh s.heap.objs.size ax (Nat.ne_of_lt hlt) vs.toArray
  have e : vs.toArray.size = vs.length := by simp
  rw [e] at W
  refine ⟨_, _, vs.length, _, _, LCg.SrcAt h₀ ax vs.toArray, news, J, rfl, W, hsz, (fun i h st => by obtain ⟨o, e, _⟩ := st.1; exact ⟨o, e⟩), LCg.list_st, hJS, hJl, hJt, ⟨⟨_, Heap.get?_push_size _ rfl, rfl, rfl⟩, hl.push _⟩, ?_, F.push _, (fun p hp => ⟨Heap.get?_push_of_some _ (N p hp).1, (N p hp).2⟩), Nat.ne_of_lt F.ns.lt, next_is_new F, (fun p hp => Nat.ne_of_lt (Heap.lt_size (N p hp).1)), hJ, ?_, (fun i s' v Q' E' st q => go_list st.1 q), fin⟩
  · intro b hb
    show b < (s.heap.push _).objs.size
    rw [Heap.size_push]
    rcases List.mem_cons.mp hb with rfl | hb
    · exact Nat.lt_succ_self _
    · rw [List.mem_singleton.mp hb]; exact Nat.lt_succ_of_lt hlt
  · intro i v ys news I oI C oC D m' h t₀ tk E' hi hP
    exact turn _ ⟨_, rfl⟩ i v ys news I oI C oC D m' h t₀ tk E' hi (by simpa using hP)

theorem assign_stopM {elt target iter : Expr} {ifs : List Expr} {y : Str} {py : Pos} {scope : Scope} {cl : List (Str × Addr)} {pos spos : Pos} {Q : Flow → Shared → Prop} (F₀ : Fr h₀ L s.heap m) (hLe : env.locals = L)
    (hsw : swapsWith (.ListComp elt [⟨target, iter, ifs, 0⟩] scope pos) (some (.Name y py)) spos.line env = pure true)
    (hclos : closureFor scope env = pure cl) (hcell : ∀ z ∈ scope.names, z.2 ≠ .cell) (hkind : scope.kind = .function)
    (hnames : ∀ z ∈ scope.names, z.2 = .local → scope.names.lookup z.1 = some .local)
    (hy : env.kindOf y = some .local) (hp : (env.scope.kind == .class || (env.scope.kind == .module && env.locals != env.globals)) = false)
    (h : wpAny (model prog w) A (eval iter env) (fun xv s₁ => Stop (wpAny (model prog w) A (pyIter xv) (fun it s₂ => CompAtM prog w A h₀ L m env elt target ifs scope cl (fun D z => if z = y then some (.ref D) else m z) (fun _ s' => Q .next s') it s₂) E s₁)) E s)
    (hs : ∀ x, foldedSetIterable iter env x = pure x := by intro _; rfl) :
    wpAny (model prog w) A (exec (.Assign [.Name y py] (.ListComp elt [⟨target, iter, ifs, 0⟩] scope pos) spos) env) Q E s := by
  subst hLe
  rw [exec_Assign_Name_used _ _ _ _ hsw]
  refine wpAny_bind (wpAny_standAt (wpAny_bind ?_))
  show wpAny _ A (do let _ ← comprehension (.ListComp elt [⟨target, iter, ifs, 0⟩] scope pos) scope env _ (newList []) false (eval iter env) (some (assign (.Name y py) env))) _ _ s
  refine wpAny_bind (wpAny_mono (wpAny_comprehension_free (use := some (assign (.Name y py) env)) (Q := fun _ s' => Q .next s') rfl hs hclos hkind hnames
    (wpAny_mono h (fun xv s₁ h₁ => wpAny_mono h₁ (fun it s₂ h₂ => ?_) fun _ _ e => e) fun _ _ e => e)) (fun _ s' hq => wpAny_pure (wpAny_pure hq)) fun _ _ e => e)
  obtain ⟨I, fp, n, P, St, S, news, J, rfl, W, hsz, hIo, hSt, hJS, hJl, hJt, hst, hfp, F, N, hIL, hI₀, off, hJ, turn, ht, fin⟩ := h₂
  refine block_G J W hsz hIo hSt hJS hJl hJt hcell hkind hst hfp F N hIL hI₀ off hJ turn ht ?_
  intro D C h' tk m' ys news' F' N' o1 hn hC₀ hCL hCD offC hJn
  show wpAny _ A (assign (.Name y py) env (.ref D)) _ _ _
  refine wpAny_assign_Name (wpAny_storeName_local hy F'.ns (fun h₂ hn₂ hs₂ => ?_) hp)
  have hL₀ : h₀.get? env.locals = none := Heap.get?_none_of_le F'.above
  have F₂ : Fr h₀ env.locals h₂ (fun z => if z = y then some (.ref D) else m z) := ⟨hn₂, fun b o e => hs₂.extBut b o (fun q => by rw [q, hL₀] at e; cases e) (F'.keep b o e), F'.above⟩
  refine ⟨m', hn.sameBut hs₂ hCL, fun h'' hs'' => fin D h'' (tk + 1) ys news' (hJt _ _ _ _ _ hJn (Nat.le_succ _)) (F₂.change hs'' hCL hC₀) (fun p hp => ?_) o1⟩
  have z : h₂.get? p.1 = some p.2 := hs₂.extBut _ _ (N' p hp).2.1 (N' p hp).1
  refine ⟨hs''.extBut _ _ ?_ z, (N' p hp).2⟩
  rcases List.mem_cons.mp hp with rfl | hp
  · exact Ne.symm hCD
  · exact offC p hp
end
end Mine.P

end
section
open PySem PySem.W PyProof.Rows PySem.Spec PySem.Calls
namespace Mine
section
variable {prog : Program} {w : World} {A : Around} {E : Value → Shared → Prop} {s : Shared} {h₀ : Heap} {L : Addr} {m : Str → Option Value} {env : Env}
theorem tests_one {c : Expr} {Q : Bool → Shared → Prop} (h : wpAny (model prog w) A (isTrue c env (eval c env)) Q E s) : wpAny (model prog w) A (testsOf [c] env) Q E s := wpAny_tests_one h
end
end Mine

end
section
open PySem PySem.W PyProof.Rows PySem.Spec PySem.Calls
namespace Mine
section
variable {prog : Program} {w : World} {A : Around} {E : Value → Shared → Prop} {s : Shared} {h₀ : Heap} {L : Addr} {m : Str → Option Value} {env : Env}
/-- a turn's end where nothing leaves the loop -/
def NPost (h₀ : Heap) (L : Addr) (J : (Str → Option Value) → List (Addr × Obj) → Prop) (I : Addr) (oI : Obj) (s₁ : Shared) (f : Flow) (s₂ : Shared) : Prop := f = .next ∧ TEnd h₀ L J I oI s₁ s₂
theorem stop_ForT {Q : Flow → Shared → Prop} {target iter : Expr} {pos : Pos} {body : List Stmt} (_F : Fr h₀ env.locals s.heap m)
    (h : wpAny (model prog w) A (eval iter env) (fun xv s₁ => Stop (wpAny (model prog w) A (pyIter xv) (fun it s₂ => LoopAtT prog w A h₀ env target body Q E it s₂) E s₁)) E s)
    (hs : ∀ x, foldedSetIterable iter env x = pure x := by intro _; rfl)
    (hE : PassesOwn (model prog w) A env E := by passes_own) :
    wpAny (model prog w) A (exec (.For target iter body [] pos) env) Q E s := For_invTF _F h hs
end
end Mine

end
section
open PySem PySem.W PyProof.Rows PySem.Spec PySem.Calls
namespace Mine
theorem off1_mem {D : Addr} : ∀ {l : List (Addr × Obj)}, LCg.Off1 D l → ∀ p ∈ l, p.1 ≠ D
  | [], _, _, h => nomatch h
  | _ :: _, x, p, h => by
    rcases List.mem_cons.mp h with rfl | h
    · exact x.1
    · exact off1_mem x.2 p h
section
variable {prog : Program} {w : World} {A : Around} {E : Value → Shared → Prop} {s : Shared} {h₀ : Heap} {L : Addr} {m : Str → Option Value} {env : Env}
end
end Mine

end
section
open PySem PySem.W PyProof.Rows PySem.Spec PySem.Calls
namespace Mine
section
variable {prog : Program} {w : World} {A : Around} {E : Value → Shared → Prop} {s : Shared} {b c : Array UInt8} {t u : Tok} {Q : Value → Shared → Prop}
end
end Mine

end
section
open PySem PySem.W PyProof.Rows
namespace Mine
/-- a text stands in another at a place -/
def hitB (x t : List Nat) (i : Nat) : Bool := decide (i + t.length ≤ x.length) && ((x.drop i).take t.length == t)
abbrev hit (x t : List Nat) (i : Nat) : Prop := hitB x t i = true
theorem hit_iff {x t : List Nat} {i : Nat} : hit x t i ↔ (i + t.length ≤ x.length ∧ (x.drop i).take t.length = t) := by
  unfold hit hitB; rw [Bool.and_eq_true, decide_eq_true_eq, beq_iff_eq]
abbrev Tok4 := List Nat × Bool
/-- tokens of a pattern, the last one first -/
def often : List Tok4 → List Tok4
  | [] => []
  | (s, _) :: q => (s, true) :: q
def tokR (held : Bool) (acc : List Tok4) : List Nat → Option (List Tok4)
  | [] => if held then none else some acc
  | c :: l => if held then (if special c then tokR false (([c], false) :: acc) l else none) else if c = 92 then tokR true acc l else if c = 46 then tokR false (([], false) :: acc) l
    else if c = 42 ∧ acc ≠ [] then tokR false (often acc) l else if special c then none else tokR false (([c], false) :: acc) l
def one (c : Nat) : Tok4 := ([c], false)
theorem tokR_escC (c : Nat) (acc : List Tok4) (l : List Nat) : tokR false acc (escC c ++ l) = tokR false (one c :: acc) l := by
  cases h : special c with
  | true => rw [escC_sp h]; show tokR false acc (92 :: c :: l) = _; simp [tokR, h, one]
  | false =>
    rw [escC_no h]
    have h1 : c ≠ 92 := by rintro rfl; rw [sp92] at h; cases h
    have h2 : c ≠ 46 := by rintro rfl; revert h; decide
    have h3 : c ≠ 42 := by rintro rfl; revert h; decide
    show tokR false acc (c :: l) = _
    simp [tokR, h, h1, h2, h3, one]
theorem tokR_esc : ∀ (t : List Nat) (acc : List Tok4) (l : List Nat), tokR false acc (esc t ++ l) = tokR false ((t.map one).reverse ++ acc) l
  | [], _, _ => rfl
  | c :: t, acc, l => by
    rw [esc_cons, List.append_assoc, tokR_escC, tokR_esc t, List.map_cons, List.reverse_cons, List.append_assoc]; rfl
theorem tokR_any (acc : List Tok4) (l : List Nat) : tokR false acc (46 :: 42 :: l) = tokR false (([], true) :: acc) l := by simp [tokR, often]
/-- the tokens of texts with anything between them -/
def pat : List (List Nat) → List Tok4
  | [] => []
  | [t] => t.map one
  | t :: r => t.map one ++ ([], true) :: pat r
theorem tokR_pat : ∀ (ts : List (List Nat)) (acc : List Tok4), tokR false acc (glue [46, 42] (ts.map esc)) = some ((pat ts).reverse ++ acc)
  | [], _ => rfl
  | [t], acc => by
    show tokR false acc (esc t) = _
    have := tokR_esc t acc []
    rw [List.append_nil] at this
    rw [this]; rfl
  | t :: u :: r, acc => by
    show tokR false acc (esc t ++ [46, 42] ++ glue [46, 42] ((u :: r).map esc)) = _
    rw [List.append_assoc, tokR_esc]
    show tokR false _ (46 :: 42 :: glue [46, 42] ((u :: r).map esc)) = _
    rw [tokR_any, tokR_pat (u :: r)]
    show _ = some ((t.map one ++ ([], true) :: pat (u :: r)).reverse ++ acc)
    simp
/-- where one may stand behind a token -/
def okAt (x s : List Nat) (p : Nat) : Bool := decide (p < x.length) && (s == [] || s == [x.getD p 0])
def stepOne (x s : List Nat) (ps : List Nat) : List Nat := (ps.filter (okAt x s)).map (· + 1)
def oftC (x s ps acc : List Nat) (p : Nat) : Bool := decide (p ∈ ps) || (decide (acc.getLast? = some (p - 1) ∧ 1 ≤ p) && (s == [] || s == [x.getD (p - 1) 0]))
def stepOft (x s ps : List Nat) : List Nat := (List.range (x.length + 1)).foldl (fun acc p => if oftC x s ps acc p then acc ++ [p] else acc) []
def step4 (x : List Nat) (ps : List Nat) (k : Tok4) : List Nat := if k.2 then stepOft x k.1 ps else stepOne x k.1 ps
def fits (x : List Nat) (ks : List Tok4) : Bool := decide (x.length ∈ ks.foldl (step4 x) [0])
theorem hit_nil {x : List Nat} {p : Nat} : hit x [] p ↔ p ≤ x.length := by rw [hit_iff]; simp
theorem hit_cons {x t : List Nat} {c p : Nat} : hit x (c :: t) p ↔ (okAt x [c] p = true ∧ hit x t (p + 1)) := by
  rw [hit_iff, hit_iff]; unfold okAt
  constructor
  · rintro ⟨h1, h2⟩
    have hp : p < x.length := by simp at h1; omega
    rw [List.drop_eq_getElem_cons hp, List.length_cons, List.take_succ_cons] at h2
    injection h2 with h3 h4
    refine ⟨?_, by simp at h1; omega, h4⟩
    simp [hp, h3]
  · rintro ⟨h1, h2, h3⟩
    rw [Bool.and_eq_true, decide_eq_true_eq] at h1
    obtain ⟨hp, hc⟩ := h1
    have hc' : c = x[p] := by simpa [hp] using hc
    refine ⟨by simp; omega, ?_⟩
    rw [List.drop_eq_getElem_cons hp, List.length_cons, List.take_succ_cons, h3, ← hc']
theorem run_ones (x : List Nat) : ∀ (t ps : List Nat), (∀ p ∈ ps, p ≤ x.length) → (t.map one).foldl (step4 x) ps = (ps.filter (fun p => decide (hit x t p))).map (· + t.length)
  | [], ps, h => by
    have : ps.filter (fun p => decide (hit x [] p)) = ps := List.filter_eq_self.mpr fun p hp => by rw [decide_eq_true_eq, hit_nil]; exact h p hp
    rw [this]; simp
  | c :: t, ps, h => by
    rw [List.map_cons, List.foldl_cons]
    show (t.map one).foldl (step4 x) (stepOne x [c] ps) = _
    rw [run_ones x t]
    · unfold stepOne
      rw [List.filter_map, List.filter_filter, List.map_map]
      have e : (fun p => ((fun p => decide (hit x t p)) ∘ fun x => x + 1) p && okAt x [c] p) = fun p => decide (hit x (c :: t) p) := by
        funext p
        rw [Bool.eq_iff_iff, Bool.and_eq_true, decide_eq_true_eq, hit_cons]
        simp [and_comm]
      rw [e]
      congr 1
      funext p
      simp; omega
    · intro p hp
      unfold stepOne at hp
      obtain ⟨q, hq, rfl⟩ := List.mem_map.mp hp
      have := (List.mem_filter.mp hq).2
      unfold okAt at this
      rw [Bool.and_eq_true, decide_eq_true_eq] at this
      omega
theorem oft_pre (x ps : List Nat) : ∀ k, (List.range k).foldl (fun acc p => if oftC x [] ps acc p then acc ++ [p] else acc) [] = (List.range k).filter (fun q => decide (∃ p ∈ ps, p ≤ q))
  | 0 => rfl
  | k + 1 => by
    rw [List.range_succ, List.foldl_append, oft_pre x ps k, List.filter_append]
    show (if oftC x [] ps _ k = true then _ else _) = _
    have key : oftC x [] ps ((List.range k).filter (fun q => decide (∃ p ∈ ps, p ≤ q))) k = decide (∃ p ∈ ps, p ≤ k) := by
      rw [Bool.eq_iff_iff, decide_eq_true_eq]
      unfold oftC
      rw [Bool.or_eq_true, decide_eq_true_eq]
      have hlast : ((List.range k).filter (fun q => decide (∃ p ∈ ps, p ≤ q))).getLast? = some (k - 1) ∧ 1 ≤ k ↔ (1 ≤ k ∧ ∃ p ∈ ps, p ≤ k - 1) := by
        cases k with
        | zero => simp
        | succ j =>
          rw [List.range_succ, List.filter_append]
          constructor
          · rintro ⟨h, _⟩
            refine ⟨Nat.succ_le_succ (Nat.zero_le _), ?_⟩
            have hm := List.mem_of_getLast? h
            rcases List.mem_append.mp hm with hm | hm
            · have := (List.mem_filter.mp hm).1
              rw [List.mem_range] at this
              simp at this
            · have := (List.mem_filter.mp hm).2
              rw [decide_eq_true_eq] at this
              exact this
          · rintro ⟨_, h⟩
            have h' : ∃ p ∈ ps, p ≤ j := h
            have : List.filter (fun q => decide (∃ p ∈ ps, p ≤ q)) [j] = [j] := by simp [h']
            rw [this]
            simp
      constructor
      · rintro (h | h)
        · exact ⟨k, h, Nat.le_refl _⟩
        · rw [Bool.and_eq_true, decide_eq_true_eq, hlast] at h
          obtain ⟨⟨_, p, hp, hle⟩, _⟩ := h
          exact ⟨p, hp, by omega⟩
      · rintro ⟨p, hp, hle⟩
        by_cases e : p = k
        · exact .inl (e ▸ hp)
        · right
          rw [Bool.and_eq_true, decide_eq_true_eq, hlast]
          exact ⟨⟨by omega, p, hp, by omega⟩, rfl⟩
    rw [key]
    by_cases h : ∃ p ∈ ps, p ≤ k
    · rw [if_pos (by simpa using h)]
      have : List.filter (fun q => decide (∃ p ∈ ps, p ≤ q)) [k] = [k] := by simp [h]
      rw [this]
    · rw [if_neg (by simpa using h)]
      have : List.filter (fun q => decide (∃ p ∈ ps, p ≤ q)) [k] = [] := by simp [h]
      rw [this, List.append_nil]
/-- the places from one on -/
def from4 (x : List Nat) (a : Nat) : List Nat := (List.range (x.length + 1)).filter (fun q => decide (a ≤ q))
theorem mem_from {x : List Nat} {a q : Nat} : q ∈ from4 x a ↔ (q ≤ x.length ∧ a ≤ q) := by
  unfold from4; rw [List.mem_filter, List.mem_range, decide_eq_true_eq]; omega
theorem step_oft (x ps : List Nat) : step4 x ps ([], true) = (List.range (x.length + 1)).filter (fun q => decide (∃ p ∈ ps, p ≤ q)) := oft_pre x ps _
theorem oft_of {x ps : List Nat} {a : Nat} (h : ∀ q, (∃ p ∈ ps, p ≤ q) ↔ a ≤ q) : step4 x ps ([], true) = from4 x a := by
  rw [step_oft]; unfold from4
  congr 1
  funext q
  rw [Bool.eq_iff_iff, decide_eq_true_eq, decide_eq_true_eq]; exact h q
theorem oft_nil (x : List Nat) : step4 x [] ([], true) = [] := by rw [step_oft]; simp
/-- the first place from one on at which a text stands -/
def first4 (x t : List Nat) (a : Nat) : Option Nat := (from4 x a).find? (fun i => decide (hit x t i))
theorem first_some {x t : List Nat} {a i : Nat} (h : first4 x t a = some i) : a ≤ i ∧ hit x t i ∧ ∀ k, a ≤ k → k < i → ¬ hit x t k := by
  unfold first4 at h
  obtain ⟨hi, l1, l2, e, hn⟩ := List.find?_eq_some_iff_append.mp h
  have hm : i ∈ from4 x a := by rw [e]; simp
  refine ⟨(mem_from.mp hm).2, by simpa using hi, ?_⟩
  intro k hk hki hh
  have hkm : k ∈ from4 x a := mem_from.mpr ⟨by have := (hit_iff.mp hh).1; omega, hk⟩
  rw [e] at hkm
  have hsort : (from4 x a).Pairwise (· < ·) := (List.pairwise_lt_range).filter _
  rw [e] at hsort
  rcases List.mem_append.mp hkm with h1 | h1
  · have := hn k h1
    simp [hh] at this
  · rcases List.mem_cons.mp h1 with rfl | h1
    · omega
    · have := (List.pairwise_append.mp hsort).2.1
      have := (List.pairwise_cons.mp this).1 k h1
      omega
theorem first_none {x t : List Nat} {a : Nat} (h : first4 x t a = none) : ∀ k, a ≤ k → ¬ hit x t k := by
  unfold first4 at h
  rw [List.find?_eq_none] at h
  intro k hk hh
  exact h k (mem_from.mpr ⟨by have := (hit_iff.mp hh).1; omega, hk⟩) (by simpa using hh)
def greedy (x : List Nat) : List (List Nat) → Nat → Option Nat
  | [], p => some p
  | t :: r, p => match first4 x t p with
    | none => none
    | some i => greedy x r (i + t.length)
theorem ones_from {x t : List Nat} {a : Nat} : (t.map one).foldl (step4 x) (from4 x a) = ((from4 x a).filter (fun p => decide (hit x t p))).map (· + t.length) :=
  run_ones x t _ fun p hp => (mem_from.mp hp).1
theorem run_nil (x : List Nat) : ∀ ks : List Tok4, (∀ k ∈ ks, k = ([], true) ∨ ∃ c, k = one c) → ks.foldl (step4 x) [] = []
  | [], _ => rfl
  | k :: ks, h => by
    rw [List.foldl_cons]
    have : step4 x [] k = [] := by
      rcases h k (.head _) with rfl | ⟨c, rfl⟩
      · exact oft_nil x
      · rfl
    rw [this]
    exact run_nil x ks fun k hk => h k (.tail _ hk)
theorem pat_kinds : ∀ (ts : List (List Nat)), ∀ k ∈ pat ts, k = ([], true) ∨ ∃ c, k = one c
  | [], _, h => nomatch h
  | [t], k, h => by
    obtain ⟨c, _, rfl⟩ := List.mem_map.mp h
    exact .inr ⟨c, rfl⟩
  | t :: u :: r, k, h => by
    have h' : k ∈ t.map one ++ ([], true) :: pat (u :: r) := h
    rcases List.mem_append.mp h' with h | h
    · obtain ⟨c, _, rfl⟩ := List.mem_map.mp h
      exact .inr ⟨c, rfl⟩
    · rcases List.mem_cons.mp h with rfl | h
      · exact .inl rfl
      · exact pat_kinds (u :: r) k h
/-- the middle texts and the last one, from a place on -/
theorem fits_from (x : List Nat) : ∀ (mid : List (List Nat)) (z : List Nat) (a : Nat), (x.length ∈ (pat (mid ++ [z])).foldl (step4 x) (from4 x a)) ↔ ∃ p, greedy x mid a = some p ∧ p + z.length ≤ x.length ∧ hit x z (x.length - z.length)
  | [], z, a => by
    show x.length ∈ (z.map one).foldl (step4 x) (from4 x a) ↔ _
    rw [ones_from]
    constructor
    · intro h
      obtain ⟨p, hp, e⟩ := List.mem_map.mp h
      obtain ⟨h1, h2⟩ := List.mem_filter.mp hp
      rw [decide_eq_true_eq] at h2
      have e' : p = x.length - z.length := by have e : p + z.length = x.length := e; omega
      refine ⟨a, rfl, ?_, e' ▸ h2⟩
      have := (mem_from.mp h1).2
      have e : p + z.length = x.length := e
      omega
    · rintro ⟨p, hp, h1, h2⟩
      cases hp
      refine List.mem_map.mpr ⟨x.length - z.length, List.mem_filter.mpr ⟨mem_from.mpr ⟨by omega, by omega⟩, by simpa using h2⟩, ?_⟩
      show x.length - z.length + z.length = x.length
      omega
  | t :: r, z, a => by
    have hp : pat (t :: r ++ [z]) = t.map one ++ ([], true) :: pat (r ++ [z]) := by
      cases r with
      | nil => rfl
      | cons u r => rfl
    rw [hp, List.foldl_append, ones_from, List.foldl_cons]
    cases hf : first4 x t a with
    | none =>
      have hn := first_none hf
      have : (from4 x a).filter (fun p => decide (hit x t p)) = [] := List.filter_eq_nil_iff.mpr fun p hp => by simpa using hn p (mem_from.mp hp).2
      rw [this]
      show x.length ∈ (pat (r ++ [z])).foldl (step4 x) (step4 x [] ([], true)) ↔ _
      rw [oft_nil, run_nil x _ (pat_kinds _)]
      simp [greedy, hf]
    | some i =>
      obtain ⟨h1, h2, h3⟩ := first_some hf
      rw [oft_of (a := i + t.length), fits_from x r z]
      · simp [greedy, hf]
      · intro q
        constructor
        · rintro ⟨p, hp, hle⟩
          obtain ⟨p', hp', rfl⟩ := List.mem_map.mp hp
          obtain ⟨h4, h5⟩ := List.mem_filter.mp hp'
          rw [decide_eq_true_eq] at h5
          have := (mem_from.mp h4).2
          rcases Nat.lt_or_ge p' i with hlt | hge
          · exact absurd h5 (h3 p' this hlt)
          · have hle : p' + t.length ≤ q := hle
            omega
        · intro hle
          exact ⟨i + t.length, List.mem_map.mpr ⟨i, List.mem_filter.mpr ⟨mem_from.mpr ⟨by have := (hit_iff.mp h2).1; omega, h1⟩, by simpa using h2⟩, rfl⟩, hle⟩
/-- what the law holds against it -/
def found (x : List Nat) (ts : List (List Nat)) : Bool :=
  match ts with
  | [] => false
  | [t] => x == t
  | t :: u :: r => decide (hit x t 0) && decide (hit x ((u :: r).getLast (by simp)) (x.length - ((u :: r).getLast (by simp)).length)) && match greedy x (u :: r).dropLast t.length with
    | none => false
    | some p => decide (p + ((u :: r).getLast (by simp)).length ≤ x.length)
theorem hit_all {x t : List Nat} : hit x t 0 ∧ t.length = x.length ↔ x = t := by
  rw [hit_iff]
  constructor
  · rintro ⟨⟨h1, h2⟩, h3⟩
    rw [List.drop_zero, h3, List.take_length] at h2
    exact h2
  · rintro rfl
    simp
theorem zero_run (x t : List Nat) : (t.map one).foldl (step4 x) [0] = if hit x t 0 then [t.length] else [] := by
  rw [run_ones x t [0] (by simp)]
  by_cases h : hit x t 0
  · simp [h]
  · simp [h]
theorem fits_found (x : List Nat) : ∀ ts : List (List Nat), ts ≠ [] → fits x (pat ts) = found x ts
  | [], h => absurd rfl h
  | [t], _ => by
    unfold fits found
    show decide (x.length ∈ (t.map one).foldl (step4 x) [0]) = _
    rw [zero_run, Bool.eq_iff_iff, decide_eq_true_eq, beq_iff_eq, ← hit_all]
    by_cases h : hit x t 0
    · rw [if_pos h]
      constructor
      · intro e
        exact ⟨h, (List.mem_singleton.mp e).symm⟩
      · rintro ⟨_, e⟩
        exact List.mem_singleton.mpr e.symm
    · rw [if_neg h]
      constructor
      · intro e; cases e
      · rintro ⟨e, _⟩; exact absurd e h
  | t :: u :: r, _ => by
    unfold fits found
    have hp : pat (t :: u :: r) = t.map one ++ ([], true) :: pat (u :: r) := rfl
    rw [hp, List.foldl_append, zero_run, List.foldl_cons]
    by_cases h : hit x t 0
    · rw [if_pos h, oft_of (a := t.length) (by intro q; simp)]
      have hur : (u :: r) = (u :: r).dropLast ++ [(u :: r).getLast (by simp)] := (List.dropLast_concat_getLast (by simp)).symm
      have := fits_from x (u :: r).dropLast ((u :: r).getLast (by simp)) t.length
      rw [← hur] at this
      rw [Bool.eq_iff_iff, decide_eq_true_eq, this]
      simp only [h, decide_true, Bool.true_and, Bool.and_eq_true, decide_eq_true_eq]
      constructor
      · rintro ⟨p, hp, h1, h2⟩
        rw [hp]
        exact ⟨⟨h, h2⟩, by simpa using h1⟩
      · rintro ⟨⟨_, h2⟩, h3⟩
        cases hg : greedy x (u :: r).dropLast t.length with
        | none => rw [hg] at h3; cases h3
        | some p => rw [hg] at h3; exact ⟨p, rfl, by simpa using h3, h2⟩
    · rw [if_neg h, oft_nil, run_nil x _ (pat_kinds _)]
      simp [h]
end Mine

end
section
open PySem PySem.W PyProof.Rows PySem.Spec PySem.Calls
namespace Mine.T
/-- an item of a row: a list of a kind and a text -/
structure Item where
  a : Addr
  x : List Nat
  u : Tok
  b : Bool
  n : Nat
abbrev Item.obj (p : Item) : Obj := W.listOf #[.str (tx p.x) p.u, .bool p.b] p.n
def Item.dat (p : Item) : Tok4 := (p.x, p.b)
def led (its : List Item) : List (Addr × Obj) := its.map fun p => (p.a, p.obj)
def refs (its : List Item) : List Value := its.reverse.map fun p => Value.ref p.a
def dats (its : List Item) : List Tok4 := its.map Item.dat
theorem refs_cons (p : Item) (its : List Item) : refs (p :: its) = refs its ++ [.ref p.a] := by simp [refs]
theorem refs_len (its : List Item) : (refs its).length = its.length := by simp [refs]
theorem dats_len (its : List Item) : (dats its).length = its.length := by simp [dats]
/-- the items' addresses differ from each other and from all else -/
def Apart (news : List (Addr × Obj)) : List Item → Prop
  | [] => True
  | p :: its => (∀ q ∈ led its ++ news, q.1 ≠ p.a) ∧ Apart news its
/-- a row in the ledger -/
def RowIs (D : Addr) (r : List Tok4) (news nw : List (Addr × Obj)) : Prop :=
  ∃ its n, nw = (D, W.listOf (refs its).toArray n) :: (led its ++ news) ∧ dats its = r ∧ (∀ q ∈ led its ++ news, q.1 ≠ D) ∧ Apart news its
theorem RowIs.rest {D : Addr} {r : List Tok4} {news nw : List (Addr × Obj)} (h : RowIs D r news nw) : ∀ p ∈ news, p ∈ nw := by
  obtain ⟨its, n, rfl, _⟩ := h
  exact fun p hp => .tail _ (List.mem_append_right _ hp)
section
variable {prog : Program} {w : World} {A : Around} {E : Value → Shared → Prop} {s : Shared} {h₀ : Heap} {L : Addr} {m : Str → Option Value}
theorem row_append {D I a : Addr} {oI : Obj} {r : List Tok4} {x : List Nat} {u : Tok} {b : Bool} {rest nw : List (Addr × Obj)} {Q : Value → Shared → Prop} (F : Fr h₀ L s.heap m) (N : News h₀ L s.heap ((a, W.listOf #[.str (tx x) u, .bool b] 0) :: (I, oI) :: nw)) (hR : RowIs D r rest nw)
    (off : ∀ p ∈ nw, p.1 ≠ I) (ha : ∀ p ∈ (I, oI) :: nw, p.1 ≠ a) (hsz : r.length ≤ 100000)
    (h : ∀ h' nw', RowIs D ((x, b) :: r) rest nw' → (∀ p ∈ nw', p.1 ≠ I) → Fr h₀ L h' m → News h₀ L h' ((I, oI) :: nw') → Q .none { s with heap := h' }) : wpAny (model prog w) A (call (.builtin "list.append") [.ref D, .ref a]) Q E s := by
  obtain ⟨its, n, rfl, rfl, hD, hA⟩ := hR
  rw [dats_len] at hsz
  have haD : D ≠ a := ha (D, _) (.tail _ (.head _))
  have hID : D ≠ I := off (D, _) (.head _)
  have N₁ : News h₀ L s.heap ((D, W.listOf (refs its).toArray n) :: (a, W.listOf #[.str (tx x) u, .bool b] 0) :: (I, oI) :: (led its ++ rest)) := News.sub N (by
    intro p hp
    rcases List.mem_cons.mp hp with rfl | hp
    · exact .tail _ (.tail _ (.head _))
    · rcases List.mem_cons.mp hp with rfl | hp
      · exact .head _
      · rcases List.mem_cons.mp hp with rfl | hp
        · exact .tail _ (.head _)
        · exact .tail _ (.tail _ (.tail _ hp)))
  refine append_K F N₁ (Upd.head ?_) ?_ ?_
  · intro p hp
    rcases List.mem_cons.mp hp with rfl | hp
    · exact Ne.symm haD
    · rcases List.mem_cons.mp hp with rfl | hp
      · exact Ne.symm hID
      · exact hD p hp
  · intro h' F' N'
    refine h h' _ ⟨⟨a, x, u, b, 0⟩ :: its, n + 1, rfl, rfl, ?_, ?_, hA⟩ ?_ F' ?_
    · intro q hq
      rcases List.mem_cons.mp hq with rfl | hq
      · exact Ne.symm haD
      · exact hD q hq
    · intro q hq
      exact ha q (.tail _ (.tail _ hq))
    · intro p hp
      rcases List.mem_cons.mp hp with rfl | hp
      · exact hID
      · rcases List.mem_cons.mp hp with rfl | hp
        · exact Ne.symm (ha (I, oI) (.head _))
        · exact off p (.tail _ hp)
    · have e : (refs (⟨a, x, u, b, 0⟩ :: its)).toArray = (refs its).toArray.push (.ref a) := by rw [refs_cons]; simp
      rw [e]
      refine News.sub N' ?_
      intro p hp
      rcases List.mem_cons.mp hp with rfl | hp
      · exact .tail _ (.tail _ (.head _))
      · rcases List.mem_cons.mp hp with rfl | hp
        · exact .head _
        · rcases List.mem_cons.mp hp with rfl | hp
          · exact .tail _ (.head _)
          · exact .tail _ (.tail _ (.tail _ hp))
  · rw [List.size_toArray, refs_len, sizeLine_eq]; omega
end
theorem RowIs.gm {prog : Program} {w : World} {A : Around} {E : Value → Shared → Prop} {s : Shared} {h₀ : Heap} {L D : Addr} {r : List Tok4} {rest nw all : List (Addr × Obj)} {pl : Sem Bool} {Q : Value × List Value → Shared → Prop} (N : News h₀ L s.heap all) (hs : ∀ p ∈ nw, p ∈ all) (hR : RowIs D r rest nw)
    (h : Q (.builtin "list.append", [.ref D]) s) : wpAny (model prog w) A (getMethod (.ref D) (PySem.Str.ofString "append") pl) Q E s := by
  obtain ⟨its, n, rfl, _⟩ := hR
  exact getMethod_list_append (N _ (hs _ (.head _))).1 rfl rfl h
end Mine.T

end
section
open PySem PySem.W PyProof.Rows PySem.Spec PySem.Calls
namespace Mine
section
variable {prog : Program} {w : World} {A : Around} {E : Value → Shared → Prop} {s : Shared} {h₀ : Heap} {L : Addr} {m : Str → Option Value}
theorem set_last {D : Addr} {vs : List Value} {x v : Value} {n : Nat} {t : Tok} {news news' : List (Addr × Obj)} {Q : Unit → Shared → Prop} (F : Fr h₀ L s.heap m) (N : News h₀ L s.heap news) (U : Upd D (W.listOf (vs ++ [x]).toArray n) (W.listOf (vs ++ [v]).toArray n) news news')
    (h : ∀ h', Fr h₀ L h' m → News h₀ L h' news' → Q () { s with heap := h' }) : wpAny (model prog w) A (setItem (.ref D) (.int (-1) t) v) Q E s := by
  obtain ⟨pre, post, rfl, rfl, a, b⟩ := U.split
  have z := N (D, W.listOf (vs ++ [x]).toArray n) (List.mem_append.mpr (.inr (.head _)))
  refine ki_setBack z.1 (by decide) (by simp; omega) (by decide) (h _ (F.change (Heap.SameBut.update ..) z.2.1 z.2.2) (ki_turn _ N a b ?_ ?_))
  · apply Array.toList_inj.mp
    have hi : (-1 + ((vs ++ [x]).toArray.size : Int)).toNat = vs.length := by simp; omega
    rw [hi]
    simp
  · simp
theorem last_get {a : Addr} {vs : List Value} {x : Value} {u : Tok} {Q : Value → Shared → Prop} (hl : s.heap.IsList a (vs ++ [x]).toArray) (hn : vs.length ≤ 1000000) (h : Q x s) : wpAny (model prog w) A (getItem (.ref a) (.int (-1) u)) Q E s := by
  have hi : (-1 + ((vs ++ [x]).length : Int)).toNat = vs.length := by simp; omega
  have hx : (vs ++ [x])[(-1 + ((vs ++ [x]).length : Int)).toNat]? = some x := by rw [hi]; simp
  exact wpAny_getItem_list_neg hl (by decide) (by simp; omega) (by decide) (by rw [List.size_toArray, List.getElem?_toArray]; exact hx) h
/-- the last token stands at an address -/
def TLast (a D : Addr) (r : List Tok4) (rest nw : List (Addr × Obj)) : Prop :=
  ∃ p its n, nw = (D, W.listOf (T.refs (p :: its)).toArray n) :: (T.led (p :: its) ++ rest) ∧ T.dats (p :: its) = r ∧ a = p.a ∧ (∀ q ∈ T.led (p :: its) ++ rest, q.1 ≠ D) ∧ T.Apart rest (p :: its)
theorem tok_last {value slice : PySem.Expr} {D : Addr} {k : Tok4} {r : List Tok4} {rest nw all : List (Addr × Obj)} {u : Tok} {Q : Value → Shared → Prop} (N : News h₀ L s.heap all) (hs : ∀ p ∈ nw, p ∈ all) (R : T.RowIs D (k :: r) rest nw) (hn : r.length ≤ 100000) (h : ∀ a, TLast a D (k :: r) rest nw → Q (.ref a) s)
    (h1 : subscripted slice false (.ref D) (.int (-1) u) = operate [.ref D, .int (-1) u] (getItem (.ref D) (.int (-1) u)) := by with_unfolding_all rfl) (h2 : ∀ r, letTemporaryGo value (.ref D) r = pure () := by intro _; with_unfolding_all rfl) :
    wpAny (model prog w) A (subscriptTail value slice (.ref D) (.int (-1) u)) Q E s := by
  obtain ⟨its, n, rfl, hd, hD, hA⟩ := R
  cases its with
  | nil => cases hd
  | cons p its =>
    have hl : s.heap.IsList D (T.refs its ++ [Value.ref p.a]).toArray := by
      rw [← T.refs_cons]; exact ⟨_, (N _ (hs _ (.head _))).1, rfl, _, rfl⟩
    have hlen : (T.refs its).length ≤ 1000000 := by
      rw [T.refs_len]
      have : (T.dats its).length = r.length := by injection hd with _ e; show (T.dats its).length = _; exact congrArg List.length e
      rw [T.dats_len] at this
      omega
    exact last_item hl hlen (h p.a ⟨p, its, n, rfl, hd, rfl, hD, hA⟩) h1 h2
theorem tok_often {a D I : Addr} {oI : Obj} {k : Tok4} {r : List Tok4} {rest nw all : List (Addr × Obj)} {t : Tok} {Q : Unit → Shared → Prop} (F : Fr h₀ L s.heap m) (N : News h₀ L s.heap all) (hs : ∀ p ∈ (I, oI) :: nw, p ∈ all) (H : TLast a D (k :: r) rest nw) (off : ∀ p ∈ nw, p.1 ≠ I)
    (h : ∀ h' nw', T.RowIs D (often (k :: r)) rest nw' → (∀ p ∈ nw', p.1 ≠ I) → Fr h₀ L h' m → News h₀ L h' ((I, oI) :: nw') → Q () { s with heap := h' }) : wpAny (model prog w) A (setItem (.ref a) (.int 1 t) (.bool true)) Q E s := by
  obtain ⟨p, its, n, rfl, hd, rfl, hD, hA⟩ := H
  obtain ⟨pa, px, pu, pb, pn⟩ := p
  have hDa : D ≠ pa := Ne.symm (hD (pa, _) (.head _))
  have hDI : D ≠ I := off (D, _) (.head _)
  have hIa : I ≠ pa := Ne.symm (off (pa, _) (.tail _ (.head _)))
  have N₁ : News h₀ L s.heap ((pa, W.listOf #[.str (tx px) pu, .bool pb] pn) :: (I, oI) :: (D, W.listOf (T.refs (⟨pa, px, pu, pb, pn⟩ :: its)).toArray n) :: (T.led its ++ rest)) := News.sub N (by
    intro q hq
    refine hs q ?_
    rcases List.mem_cons.mp hq with rfl | hq
    · exact .tail _ (.tail _ (.head _))
    · rcases List.mem_cons.mp hq with rfl | hq
      · exact .head _
      · rcases List.mem_cons.mp hq with rfl | hq
        · exact .tail _ (.head _)
        · exact .tail _ (.tail _ (.tail _ hq)))
  refine ki_set (k := 1) F N₁ (by decide) (by decide) (by rfl) (Upd.head ?_) ?_
  · intro q hq
    rcases List.mem_cons.mp hq with rfl | hq
    · exact hIa
    · rcases List.mem_cons.mp hq with rfl | hq
      · exact hDa
      · exact hA.1 q hq
  · intro h' F' N'
    have er : T.refs (⟨pa, px, pu, true, pn⟩ :: its) = T.refs (⟨pa, px, pu, pb, pn⟩ :: its) := by rw [T.refs_cons, T.refs_cons]
    refine h h' _ ⟨⟨pa, px, pu, true, pn⟩ :: its, n, rfl, ?_, ?_, hA⟩ ?_ F' ?_
    · injection hd with e1 e2
      subst e1
      rw [← e2]; rfl
    · intro q hq
      rcases List.mem_cons.mp hq with rfl | hq
      · exact Ne.symm hDa
      · exact hD q (.tail _ hq)
    · intro q hq
      rcases List.mem_cons.mp hq with rfl | hq
      · exact hDI
      · rcases List.mem_cons.mp hq with rfl | hq
        · exact Ne.symm hIa
        · exact off q (.tail _ (.tail _ hq))
    · rw [er]
      refine News.sub N' ?_
      intro q hq
      rcases List.mem_cons.mp hq with rfl | hq
      · exact .tail _ (.head _)
      · rcases List.mem_cons.mp hq with rfl | hq
        · exact .tail _ (.tail _ (.head _))
        · rcases List.mem_cons.mp hq with rfl | hq
          · exact .head _
          · exact .tail _ (.tail _ (.tail _ hq))
theorem tok_ne {D b : Addr} {k : Tok4} {r : List Tok4} {rest nw all : List (Addr × Obj)} {ys : Array Value} {n : Nat} {Q : Value → Shared → Prop} (N : News h₀ L s.heap ((b, W.listOf ys n) :: all)) (hs : ∀ p ∈ nw, p ∈ all) (R : T.RowIs D (k :: r) rest nw) (e : ys.size = 0) (hu : A.units < cLine) (h : Q (.bool true) s) :
    wpAny (model prog w) A (compareOp .NotEq (.ref D) (.ref b)) Q E s := by
  obtain ⟨its, n, rfl, hd, _⟩ := R
  refine ne_nil_yes (xs := (T.refs its).toArray) ⟨_, (N _ (.tail _ (hs _ (.head _)))).1, rfl, _, rfl⟩ (News.isList N (.head _)) ?_ e hu h
  rw [List.size_toArray, T.refs_len, ← T.dats_len, hd]; simp
theorem tok_no {D b : Addr} {rest nw all : List (Addr × Obj)} {ys : Array Value} {n : Nat} {Q : Value → Shared → Prop} (N : News h₀ L s.heap ((b, W.listOf ys n) :: all)) (hs : ∀ p ∈ nw, p ∈ all) (R : T.RowIs D [] rest nw) (e : ys.size = 0) (hu : A.units < cLine) (h : Q (.bool false) s) :
    wpAny (model prog w) A (compareOp .NotEq (.ref D) (.ref b)) Q E s := by
  obtain ⟨its, n, rfl, hd, _⟩ := R
  refine ne_nil_no (xs := (T.refs its).toArray) ⟨_, (N _ (.tail _ (hs _ (.head _)))).1, rfl, _, rfl⟩ (News.isList N (.head _)) ?_ e hu h
  rw [List.size_toArray, T.refs_len, ← T.dats_len, hd]; rfl
end
/-- the loop of tokens -/
def InvTok (D : Addr) (fin : List Tok4) (l : List Nat) (rest : List (Addr × Obj)) : Inv := fun m₀ _ i m nw =>
  ∃ v0 held r, m = (fun y => if y = Str.ofString "sign" then v0 else if y = Str.ofString "held" then some (.bool held) else m₀ y) ∧ T.RowIs D r rest nw ∧ tokR held r (l.drop i) = some fin ∧ r.length ≤ i
theorem iter_tok {prog : Program} {w : World} {A : Around} {E : Value → Shared → Prop} {s : Shared} {env : Env} {h₀ : Heap} {x : Str} {body : List Stmt} {Q : Flow → Shared → Prop} {D : Addr} {v : Value} {l : List Nat} {fin : List Tok4} {news : List (Addr × Obj)} {m₀ : Str → Option Value} (l1 : ∀ p ∈ news, p.1 < D) (hv : Signs v l news) (hf : tokR false [] l = some fin)
    (hh : A.handled = none) (F : Fr h₀ env.locals s.heap m₀) (N : News h₀ env.locals s.heap ((D, W.listOf #[] 0) :: news)) (h1 : m₀ (Str.ofString "held") = some (.bool false))
    (turn : ∀ i c u m₁ news₁ h tk I oI, l[i]? = some c → InvTok D fin l news m₀ ((D, W.listOf #[] 0) :: news) i m₁ news₁ → (∀ p ∈ news₁, p.1 ≠ I) → Fr h₀ env.locals h (fun z => if z = x then some (.str ⟨#[c]⟩ u) else m₁ z) → News h₀ env.locals h ((I, oI) :: news₁) →
      wpAny (model prog w) A (execs body env) (TPost h₀ env.locals (InvTok D fin l news m₀ ((D, W.listOf #[] 0) :: news) (i + 1)) I oI { s with heap := h, toks := tk } Q) E { s with heap := h, toks := tk })
    (done : ∀ m₁ news₁ h tk, InvTok D fin l news m₀ ((D, W.listOf #[] 0) :: news) l.length m₁ news₁ → Fr h₀ env.locals h m₁ → News h₀ env.locals h news₁ → Q .next { s with heap := h, toks := tk }) :
    wpAny (model prog w) A (pyIter v) (fun it s₂ => LoopAtV prog w A h₀ env x body Q E it s₂) E s := by
  refine iter_signs (InvTok D fin l news) hv hh F N (by rintro i m nw ⟨_, _, _, _, hR, _⟩; exact hR.rest) ⟨m₀ (Str.ofString "sign"), false, [], ?_, ⟨[], 0, rfl, rfl, ne_lt l1, trivial⟩, hf, Nat.zero_le _⟩ turn done
  funext y
  by_cases e1 : y = Str.ofString "sign"
  · subst e1; simp
  · by_cases e2 : y = Str.ofString "held"
    · subst e2; simp [e1, h1]
    · simp [e1, e2]
theorem tok_end {h₀ h' : Heap} {L D I : Addr} {m₀ m : Str → Option Value} {fin r r' : List Tok4} {l : List Nat} {i c : Nat} {v1 : Option Value} {held held' : Bool} {oI : Obj} {rest nw nw₀ all : List (Addr × Obj)} {s₁ : Shared} {tk : Nat} {Q : Flow → Shared → Prop}
    (F : Fr h₀ L h' m) (N : News h₀ L h' all) (hsub : ∀ p ∈ (I, oI) :: nw, p ∈ all) (hm : m = fun y => if y = Str.ofString "sign" then v1 else if y = Str.ofString "held" then some (.bool held') else m₀ y)
    (hR : T.RowIs D r' rest nw) (off : ∀ p ∈ nw, p.1 ≠ I) (hc : l[i]? = some c) (hf : tokR held r (l.drop i) = some fin) (hst : ∀ t, tokR held r (c :: t) = tokR held' r' t) (hl : r'.length ≤ r.length + 1) (h1 : r.length ≤ i) :
    TPost h₀ L (InvTok D fin l rest m₀ nw₀ (i + 1)) I oI s₁ Q .next { s₁ with heap := h', toks := tk } := by
  subst hm
  have hi : i < l.length := by
    rcases Nat.lt_or_ge i l.length with h | h
    · exact h
    · rw [List.getElem?_eq_none h] at hc; cases hc
  refine TPost.next (TEnd.mk' F N hsub off ⟨v1, held', r', rfl, hR, ?_, by omega⟩)
  have e : l.drop i = c :: l.drop (i + 1) := by
    rw [List.getElem?_eq_getElem hi] at hc
    cases hc
    exact List.drop_eq_getElem_cons hi
  rw [e, hst] at hf
  exact hf
theorem tok_none {fin r : List Tok4} {l : List Nat} {i c : Nat} {held : Bool} (hc : l[i]? = some c) (hf : tokR held r (l.drop i) = some fin) (hs : ∀ t, tokR held r (c :: t) = none) : False := by
  have hi : i < l.length := by
    rcases Nat.lt_or_ge i l.length with h | h
    · exact h
    · rw [List.getElem?_eq_none h] at hc; cases hc
  have e : l.drop i = c :: l.drop (i + 1) := by
    rw [List.getElem?_eq_getElem hi] at hc
    cases hc
    exact List.drop_eq_getElem_cons hi
  rw [e, hs] at hf
  cases hf
theorem one_eq {c d : Nat} {x : PySem.Str} (hx : x = tx [d]) : ((⟨#[c]⟩ : PySem.Str) == x) = decide (c = d) := by
  rw [hx, Bool.eq_iff_iff, beq_iff_eq, decide_eq_true_eq]
  constructor
  · intro h
    have := tx_inj (a := [c]) (b := [d]) h
    simpa using this
  · rintro rfl; rfl
theorem of_dot : PySem.Str.ofString "." = tx [46] := by decide +kernel
theorem of_star : PySem.Str.ofString "*" = tx [42] := by decide +kernel
theorem is_one {c d : Nat} {x : PySem.Str} (hx : x = tx [d]) (h : ((⟨#[c]⟩ : PySem.Str) == x) = true) : c = d := by rw [one_eq hx, decide_eq_true_eq] at h; exact h
theorem no_one {c d : Nat} {x : PySem.Str} (hx : x = tx [d]) (h : ((⟨#[c]⟩ : PySem.Str) == x) = false) : c ≠ d := by rw [one_eq hx, decide_eq_false_iff_not] at h; exact h
section
variable {c : Nat} {r : List Tok4} {k : Tok4}
theorem tk_bs (h : ((⟨#[c]⟩ : PySem.Str) == Str.ofString "\\") = true) : ∀ t, tokR false r (c :: t) = tokR true r t := by
  have := is_one ofString_bs h; subst this; intro t; simp [tokR]
theorem tk_dot (h1 : ((⟨#[c]⟩ : PySem.Str) == Str.ofString ".") = true) : ∀ t, tokR false r (c :: t) = tokR false (([], false) :: r) t := by
  have := is_one of_dot h1; subst this; intro t; simp [tokR]
theorem tk_star (h1 : ((⟨#[c]⟩ : PySem.Str) == Str.ofString "*") = true) : ∀ t, tokR false (k :: r) (c :: t) = tokR false (often (k :: r)) t := by
  have := is_one of_star h1; subst this; intro t; simp [tokR]
theorem tk_star0 (h1 : ((⟨#[c]⟩ : PySem.Str) == Str.ofString "*") = true) : ∀ t, tokR false [] (c :: t) = none := by
  have := is_one of_star h1; subst this; intro t
  have h : special 42 = true := by decide
  simp [tokR, h]
theorem tk_bad (h0 : ((⟨#[c]⟩ : PySem.Str) == Str.ofString "\\") = false) (h1 : ((⟨#[c]⟩ : PySem.Str) == Str.ofString ".") = false) (h2 : ((⟨#[c]⟩ : PySem.Str) == Str.ofString "*") = false) (hs : special c = true) : ∀ t, tokR false r (c :: t) = none := by
  have := no_one ofString_bs h0
  have := no_one of_dot h1
  have := no_one of_star h2
  intro t; simp [tokR, *]
theorem tk_sign (h0 : ((⟨#[c]⟩ : PySem.Str) == Str.ofString "\\") = false) (h1 : ((⟨#[c]⟩ : PySem.Str) == Str.ofString ".") = false) (h2 : ((⟨#[c]⟩ : PySem.Str) == Str.ofString "*") = false) (hs : special c = false) : ∀ t, tokR false r (c :: t) = tokR false (([c], false) :: r) t := by
  have := no_one ofString_bs h0
  have := no_one of_dot h1
  have := no_one of_star h2
  intro t; simp [tokR, *]
theorem tk_held (hs : special c = true) : ∀ t, tokR true r (c :: t) = tokR false (([c], false) :: r) t := by intro t; simp [tokR, hs]
theorem tk_heldno (hs : special c = false) : ∀ t, tokR true r (c :: t) = none := by intro t; simp [tokR, hs]
end
theorem often_len : ∀ r : List Tok4, (often r).length ≤ r.length + 1
  | [] => Nat.zero_le _
  | _ :: _ => Nat.le_succ _
end Mine

end
section
open PySem PySem.W PyProof.Rows PySem.Spec PySem.Calls
namespace Mine
/-- the texts, the last one first -/
def signT (x : Int) : Nat :=
  if x % 5 = 1 then [46, 42, 92, 97].getD (x / 5 % 4).toNat 0 else if x % 5 = 2 then [97, 98].getD (x / 5 % 2).toNat 0 else if x % 5 = 3 then (x / 5 % 128).toNat else (x / 5 % 55296).toNat
def addT (ts : List (List Nat)) (c : Nat) : List (List Nat) :=
  match ts with
  | [] => []
  | t :: q => (t ++ [c]) :: q
def stepT (ts : List (List Nat)) (x : Int) : List (List Nat) := if x % 5 = 0 then [] :: ts else addT ts (signT x)
def textsV (ns : List Int) : List (List Nat) := ns.foldl stepT [[46]]
def sumT (ts : List (List Nat)) : Nat := (ts.map (·.length)).sum
theorem sumT_cons (t : List Nat) (ts : List (List Nat)) : sumT (t :: ts) = t.length + sumT ts := by simp [sumT]
theorem add_ne {ts : List (List Nat)} (h : ts ≠ []) (c : Nat) : addT ts c ≠ [] := by
  cases ts with
  | nil => exact absurd rfl h
  | cons t q => simp [addT]
theorem add_len (ts : List (List Nat)) (c : Nat) : (addT ts c).length = ts.length := by cases ts <;> simp [addT]
theorem add_sum (ts : List (List Nat)) (c : Nat) : sumT (addT ts c) ≤ sumT ts + 1 := by
  cases ts with
  | nil => simp [addT, sumT]
  | cons t q => simp only [addT, sumT_cons, List.length_append, List.length_singleton]; omega
theorem stepT_facts (ts : List (List Nat)) (x : Int) (h : ts ≠ []) : stepT ts x ≠ [] ∧ (stepT ts x).length ≤ ts.length + 1 ∧ sumT (stepT ts x) ≤ sumT ts + 1 := by
  unfold stepT
  split
  · refine ⟨by simp, by simp, ?_⟩
    rw [sumT_cons]; simp
  · exact ⟨add_ne h _, by rw [add_len]; omega, add_sum _ _⟩
theorem fold_facts : ∀ (ns : List Int) (ts : List (List Nat)), ts ≠ [] → ns.foldl stepT ts ≠ [] ∧ (ns.foldl stepT ts).length ≤ ts.length + ns.length ∧ sumT (ns.foldl stepT ts) ≤ sumT ts + ns.length
  | [], ts, h => ⟨h, by simp, by simp⟩
  | x :: ns, ts, h => by
    obtain ⟨h1, h2, h3⟩ := stepT_facts ts x h
    obtain ⟨h4, h5, h6⟩ := fold_facts ns _ h1
    rw [List.foldl_cons, List.length_cons]
    exact ⟨h4, by omega, by omega⟩
theorem texts_facts (ns : List Int) : textsV ns ≠ [] ∧ (textsV ns).length ≤ 1 + ns.length ∧ sumT (textsV ns) ≤ 1 + ns.length := fold_facts ns [[46]] (by simp)
theorem strs_split {ss : List PySem.Str} {y : PySem.Str} : ∀ {vs : List Value}, StrsAre vs (ss ++ [y]) → ∃ vs₀ u, vs = vs₀ ++ [.str y u] ∧ StrsAre vs₀ ss := by
  intro vs h
  induction ss generalizing vs with
  | nil =>
    cases h with
    | cons y t r => cases r; exact ⟨[], t, rfl, .nil⟩
  | cons s ss ih =>
    cases h with
    | cons s t r =>
      obtain ⟨vs₀, u, rfl, h⟩ := ih r
      exact ⟨.str s t :: vs₀, u, rfl, .cons s t h⟩
/-- the loop of texts -/
def InvTexts (D : Addr) (ns : List Int) (rest : List (Addr × Obj)) : Inv := fun m₀ _ i m nw => ∃ v0 v1 vs n, m = (fun y => if y = Str.ofString "x" then v0 else if y = Str.ofString "rest" then v1 else m₀ y) ∧ nw = (D, W.listOf vs.toArray n) :: rest ∧ StrsAre vs ((textsV (ns.take i)).reverse.map tx)
section
variable {prog : Program} {w : World} {A : Around} {E : Value → Shared → Prop} {s : Shared} {h₀ : Heap} {L : Addr} {m : Str → Option Value} {env : Env}
theorem iter_texts {S D : Addr} {oS : Obj} {x : Str} {body : List Stmt} {ws : List Value} {ns : List Int} {t : Tok} {news : List (Addr × Obj)} {m₀ : Str → Option Value} {Q : Flow → Shared → Prop} (hw : IntsAre ws ns) (hh : A.handled = none) (F : Fr h₀ env.locals s.heap m₀)
    (N : News h₀ env.locals s.heap ((D, W.listOf #[.str (PySem.Str.ofString ".") t] 0) :: news)) (hS : (S, oS) ∈ news) (hoS : s.heap.IsList S ws.toArray)
    (turn : ∀ i k u v0 v1 vs n h tk I oI, ns[i]? = some k → StrsAre vs ((textsV (ns.take i)).reverse.map tx) → (∀ p ∈ (D, W.listOf vs.toArray n) :: news, p.1 ≠ I) → Fr h₀ env.locals h (fun z => if z = x then some (.int k u) else (fun y => if y = Str.ofString "x" then v0 else if y = Str.ofString "rest" then v1 else m₀ y) z) → News h₀ env.locals h ((I, oI) :: (D, W.listOf vs.toArray n) :: news) →
      wpAny (model prog w) A (execs body env) (TPost h₀ env.locals (InvTexts D ns news m₀ ((D, W.listOf #[.str (PySem.Str.ofString ".") t] 0) :: news) (i + 1)) I oI { s with heap := h, toks := tk } Q) E { s with heap := h, toks := tk })
    (done : ∀ v0 v1 vs n h tk, StrsAre vs ((textsV ns).reverse.map tx) → Fr h₀ env.locals h (fun y => if y = Str.ofString "x" then v0 else if y = Str.ofString "rest" then v1 else m₀ y) → News h₀ env.locals h ((D, W.listOf vs.toArray n) :: news) → Q .next { s with heap := h, toks := tk }) :
    wpAny (model prog w) A (pyIter (.ref S)) (fun it s₂ => LoopAtV prog w A h₀ env x body Q E it s₂) E s := by
  refine iter_mem (ax := S) (oA := oS) (vs := ws) (InvTexts D ns news) hh F N hoS ?_ ?_ ?_ ?_
  · rintro i m nw ⟨_, _, _, _, _, rfl, _⟩
    exact .tail _ hS
  · refine ⟨m₀ (Str.ofString "x"), m₀ (Str.ofString "rest"), _, 0, ?_, rfl, ?_⟩
    · funext y
      by_cases e1 : y = Str.ofString "x"
      · subst e1; simp
      · by_cases e2 : y = Str.ofString "rest"
        · subst e2; simp [e1]
        · simp [e1, e2]
    · rw [of_dot]; exact .cons _ _ .nil
  · rintro i v m₁ nw h tk I oI hi ⟨v0, v1, vs, n, rfl, rfl, hs⟩ off F' N'
    obtain ⟨k, u, rfl, hk⟩ := IntsAre.at hw i v hi
    exact turn i k u v0 v1 vs n h tk I oI hk hs off F' N'
  · rintro m₁ nw h tk ⟨v0, v1, vs, n, rfl, rfl, hs⟩ F' N'
    rw [hw.length, List.take_length] at hs
    exact done v0 v1 vs n h tk hs F' N'
theorem mapT {m₀ : Str → Option Value} {a b a' b' : Option Value} : (fun y => if y = Str.ofString "rest" then b' else if y = Str.ofString "x" then a' else (fun y => if y = Str.ofString "x" then a else if y = Str.ofString "rest" then b else m₀ y) y) =
    fun y => if y = Str.ofString "x" then a' else if y = Str.ofString "rest" then b' else m₀ y := by
  have d1 : Str.ofString "rest" ≠ Str.ofString "x" := by decide
  funext y
  by_cases h1 : y = Str.ofString "rest"
  · subst h1; simp [d1]
  · by_cases h2 : y = Str.ofString "x"
    · subst h2; simp [h1]
    · simp [h1, h2]
theorem texts_end {h' : Heap} {D I : Addr} {oI : Obj} {ns : List Int} {rest nw₀ : List (Addr × Obj)} {m₀ : Str → Option Value} {a b a' b' : Option Value} {i n : Nat} {k : Int} {vs : List Value} {ts : List (List Nat)} {s₁ : Shared} {tk : Nat} {Q : Flow → Shared → Prop}
    (F : Fr h₀ L h' (fun y => if y = Str.ofString "rest" then b' else if y = Str.ofString "x" then a' else (fun y => if y = Str.ofString "x" then a else if y = Str.ofString "rest" then b else m₀ y) y)) (N : News h₀ L h' ((I, oI) :: (D, W.listOf vs.toArray n) :: rest)) (hID : @Ne Nat I D) (off : ∀ p ∈ rest, p.1 ≠ I) (hk : ns[i]? = some k)
    (hv : StrsAre vs (ts.reverse.map tx)) (e : ts = stepT (textsV (ns.take i)) k) :
    TPost h₀ L (InvTexts D ns rest m₀ nw₀ (i + 1)) I oI s₁ Q .next { s₁ with heap := h', toks := tk } := by
  rw [mapT] at F
  refine TPost.next (TEnd.mk' F N (fun p hp => hp) (List.forall_mem_cons.mpr ⟨Ne.symm hID, off⟩) ⟨a', b', vs, n, rfl, rfl, ?_⟩)
  have : textsV (ns.take (i + 1)) = stepT (textsV (ns.take i)) k := by
    rw [List.take_add_one, hk]; unfold textsV; rw [List.foldl_append]; rfl
  rw [this, ← e]
  exact hv
theorem strs_snoc2 {y : PySem.Str} {t : Tok} : ∀ {vs : List Value} {ys : List PySem.Str}, StrsAre vs ys → StrsAre (vs ++ [.str y t]) (ys ++ [y])
  | _, _, .nil => .cons y t .nil
  | _, _, .cons z u r => .cons z u (strs_snoc2 r)
theorem texts_add {h' : Heap} {D I : Addr} {oI : Obj} {ns : List Int} {rest nw₀ : List (Addr × Obj)} {m₀ : Str → Option Value} {a b a' b' : Option Value} {i n c : Nat} {k : Int} {vs : List Value} {t : List Nat} {q : List (List Nat)} {u : Tok} {s₁ : Shared} {tk : Nat} {Q : Flow → Shared → Prop}
    (F : Fr h₀ L h' (fun y => if y = Str.ofString "rest" then b' else if y = Str.ofString "x" then a' else (fun y => if y = Str.ofString "x" then a else if y = Str.ofString "rest" then b else m₀ y) y)) (N : News h₀ L h' ((I, oI) :: (D, W.listOf (vs ++ [Value.str (tx (t ++ [c])) u]).toArray n) :: rest)) (hID : @Ne Nat I D) (off : ∀ p ∈ rest, p.1 ≠ I) (hk : ns[i]? = some k)
    (hv : StrsAre vs (q.reverse.map tx)) (e : textsV (ns.take i) = t :: q) (h5 : ¬ k.fmod 5 = 0) (hc : c = signT k) :
    TPost h₀ L (InvTexts D ns rest m₀ nw₀ (i + 1)) I oI s₁ Q .next { s₁ with heap := h', toks := tk } := by
  refine texts_end (ts := (t ++ [c]) :: q) F N hID off hk ?_ ?_
  · rw [List.reverse_cons, List.map_append]
    exact strs_snoc2 hv
  · rw [Int.fmod_eq_emod_of_nonneg _ (by decide)] at h5
    rw [e]; unfold stepT; rw [if_neg h5, hc]; rfl
theorem texts_new {h' : Heap} {D I : Addr} {oI : Obj} {ns : List Int} {rest nw₀ : List (Addr × Obj)} {m₀ : Str → Option Value} {a b a' b' : Option Value} {i n : Nat} {k : Int} {vs : List Value} {ts : List (List Nat)} {u : Tok} {s₁ : Shared} {tk : Nat} {Q : Flow → Shared → Prop}
    (F : Fr h₀ L h' (fun y => if y = Str.ofString "rest" then b' else if y = Str.ofString "x" then a' else (fun y => if y = Str.ofString "x" then a else if y = Str.ofString "rest" then b else m₀ y) y)) (N : News h₀ L h' ((I, oI) :: (D, W.listOf (vs.toArray.push (.str (PySem.Str.ofString "") u)) n) :: rest)) (hID : @Ne Nat I D) (off : ∀ p ∈ rest, p.1 ≠ I) (hk : ns[i]? = some k)
    (hv : StrsAre vs (ts.reverse.map tx)) (e : textsV (ns.take i) = ts) (h5 : k.fmod 5 = 0) :
    TPost h₀ L (InvTexts D ns rest m₀ nw₀ (i + 1)) I oI s₁ Q .next { s₁ with heap := h', toks := tk } := by
  have ep : vs.toArray.push (.str (PySem.Str.ofString "") u) = (vs ++ [Value.str (tx []) u]).toArray := by rw [ofString_nil]; simp
  rw [ep] at N
  refine texts_end (ts := [] :: ts) F N hID off hk ?_ ?_
  · rw [List.reverse_cons, List.map_append]
    exact strs_snoc2 hv
  · rw [Int.fmod_eq_emod_of_nonneg _ (by decide)] at h5
    rw [e]; unfold stepT; rw [if_pos h5]
/-- one sign of a written text -/
theorem str_at {value slice : PySem.Expr} {x : PySem.Str} {l : List Nat} {t u : Tok} {k : Int} {Q : Value → Shared → Prop} (hx : x = tx l) (h0 : 0 ≤ k) (h1 : k < l.length) (hl : l.length ≤ 1000000) (h : Q (.str (tx [l.getD k.toNat 0]) s.toks) { s with toks := s.toks + 1 })
    (hs : subscripted slice false (.str x t) (.int k u) = operate [.str x t, .int k u] (getItem (.str x t) (.int k u)) := by with_unfolding_all rfl) (hg : ∀ r, letTemporaryGo value (.str x t) r = pure () := by intro _; with_unfolding_all rfl) :
    wpAny (model prog w) A (subscriptTail value slice (.str x t) (.int k u)) Q E s := by
  subst hx
  refine subscriptTail_builtin (typeIs_str _ _ _) PySem.F.slot_str_getitem.lookup ?_ hs hg
  refine P.getItem_str (c := l.getD k.toNat 0) ?_ ?_ h
  · rw [Bool.or_eq_false_iff, decide_eq_false_iff_not, decide_eq_false_iff_not]; omega
  · have hlt : k.toNat < l.length := by omega
    have : seqIndex? k (tx l).length = some k.toNat := by
      unfold seqIndex?
      rw [tx_len]
      have hk : ¬ k < 0 := by omega
      simp [hk]
      omega
    rw [this]
    simp [hlt]
end
end Mine

end
section
open PySem PySem.W PyProof.Rows PySem.Spec PySem.Calls
namespace Mine
open PySem.Builtin.Str in
theorem at_hit {x t : List Nat} {i : Nat} : StrLaws.At (tx x) (tx t) (tx x).length i ↔ hit x t i := by
  unfold StrLaws.At
  rw [StrLaws.subAt_eq, tx_len, tx_len, beq_iff_eq, hit_iff]
theorem starts_hit (x t : List Nat) : PySem.Txt.startswith (tx x) (tx t) = decide (hit x t 0) := by
  rw [Bool.eq_iff_iff, decide_eq_true_eq, ← at_hit]
  unfold PySem.Txt.startswith StrLaws.At
  rw [Bool.and_eq_true, decide_eq_true_eq]
theorem ends_hit (x t : List Nat) : PySem.Txt.endswith (tx x) (tx t) = decide (hit x t (x.length - t.length)) := by
  rw [Bool.eq_iff_iff, decide_eq_true_eq, ← at_hit]
  unfold PySem.Txt.endswith StrLaws.At
  rw [Bool.and_eq_true, decide_eq_true_eq, tx_len, tx_len]
  constructor
  · rintro ⟨h1, h2⟩; exact ⟨by omega, h2⟩
  · rintro ⟨h1, h2⟩
    refine ⟨by omega, h2⟩
theorem first_unique {x t : List Nat} {a i : Nat} (h1 : a ≤ i) (h2 : hit x t i) (h3 : ∀ k, a ≤ k → k < i → ¬ hit x t k) : first4 x t a = some i := by
  cases h : first4 x t a with
  | none => exact absurd h2 (first_none h i h1)
  | some j =>
    obtain ⟨g1, g2, g3⟩ := first_some h
    rcases Nat.lt_trichotomy i j with hlt | heq | hgt
    · exact absurd h2 (g3 i h1 hlt)
    · rw [heq]
    · exact absurd g2 (h3 j g1 hgt)
theorem find_first (x t : List Nat) (p : Nat) : PySem.Txt.find3 (tx x) (tx t) (p : Int) = match first4 x t p with | some i => (i : Int) | none => -1 := by
  unfold PySem.Txt.find3
  have hp : fromIndex (tx x).length (p : Int) = p := by
    unfold fromIndex
    have : ¬ ((p : Int) < 0) := by omega
    rw [if_neg this]; omega
  rw [hp]
  rcases StrLaws.occ_head_from (tx x) (tx t) p 1 (Nat.le_refl _) with ⟨e, hn⟩ | ⟨i, r, e, h1, h2, h3⟩
  · rw [e]
    have : first4 x t p = none := by
      cases h : first4 x t p with
      | none => rfl
      | some j => obtain ⟨g1, g2, _⟩ := first_some h; exact absurd (at_hit.mpr g2) (hn j g1)
    rw [this]
  · rw [e, first_unique h1 (at_hit.mp h2) (fun k hk hki q => h3 k hk hki (at_hit.mpr q))]
theorem greedy_append (x : List Nat) : ∀ (a b : List (List Nat)) (p : Nat), greedy x (a ++ b) p = (greedy x a p).bind (greedy x b)
  | [], b, p => rfl
  | t :: a, b, p => by
    show (match first4 x t p with | none => none | some i => greedy x (a ++ b) (i + t.length)) = _
    show _ = (match first4 x t p with | none => none | some i => greedy x a (i + t.length)).bind (greedy x b)
    cases first4 x t p with
    | none => rfl
    | some i => exact greedy_append x a b _
/-- what found holds, for a first text, middle ones and a last one -/
theorem found_mid (x t : List Nat) (mid : List (List Nat)) (z : List Nat) : found x (t :: (mid ++ [z])) = (decide (hit x t 0) && decide (hit x z (x.length - z.length)) && match greedy x mid t.length with | none => false | some p => decide (p + z.length ≤ x.length)) := by
  cases mid with
  | nil => rfl
  | cons u r =>
    have h1 : (u :: (r ++ [z])).getLast (by simp) = z := by
      have : u :: (r ++ [z]) = (u :: r) ++ [z] := rfl
      simp only [this, List.getLast_append, List.getLast_singleton]
      simp
    have h2 : (u :: (r ++ [z])).dropLast = u :: r := by
      have : u :: (r ++ [z]) = (u :: r) ++ [z] := rfl
      rw [this, List.dropLast_concat]
    show (decide (hit x t 0) && decide (hit x ((u :: (r ++ [z])).getLast (by simp)) (x.length - ((u :: (r ++ [z])).getLast (by simp)).length)) && match greedy x (u :: (r ++ [z])).dropLast t.length with
      | none => false
      | some p => decide (p + ((u :: (r ++ [z])).getLast (by simp)).length ≤ x.length)) = _
    rw [h1, h2]
theorem pick_mid (v z : Value) (ms : List Value) : (slicePick ((v :: ms) ++ [z]).toArray (some 1) (some (-1)) none).toList = ms := by
  have hsz : ((v :: ms) ++ [z]).toArray.size = ms.length + 2 := by simp
  have e : sliceBounds (some 1) (some (-1)) none ((v :: ms) ++ [z]).toArray.size = (((1 : Nat) : Int), ((ms.length + 1 : Nat) : Int), 1) := by
    rw [hsz]
    simp only [sliceBounds, Option.getD_none, show (1 : Int) > 0 by decide, if_true, if_neg (show ¬ ((1 : Int) < 0) by omega), if_pos (show ((-1 : Int) < 0) by omega)]
    congr 1
    · omega
    · congr 1
      omega
  rw [kmk_pick_nat _ e]
  show (((v :: ms) ++ [z]).drop 1).take (ms.length + 1 - 1) = _
  simp
/-- the loop of found -/
def InvFound (x : List Nat) (a : Nat) (mid : List (List Nat)) : Inv := fun m₀ nw₀ i m nw => nw = nw₀ ∧ ∃ v0 p t, m = (fun y => if y = Str.ofString "one" then v0 else if y = Str.ofString "place" then some (.int (p : Nat) t) else m₀ y) ∧ greedy x (mid.take i) a = some p ∧ p ≤ x.length
theorem found_start {x : List Nat} {a : Nat} {mid : List (List Nat)} {m₀ : Str → Option Value} {nw : List (Addr × Obj)} {t : Tok} (h : m₀ (Str.ofString "place") = some (.int (a : Nat) t)) (ha : a ≤ x.length) : InvFound x a mid m₀ nw 0 m₀ nw := by
  refine ⟨rfl, m₀ (Str.ofString "one"), a, t, ?_, rfl, ha⟩
  funext y
  by_cases e1 : y = Str.ofString "one"
  · subst e1; simp
  · by_cases e2 : y = Str.ofString "place"
    · subst e2; simp [e1, h]
    · simp [e1, e2]
theorem mapF {m₀ : Str → Option Value} {a b a' b' b'' : Option Value} : (fun y => if y = Str.ofString "place" then b'' else if y = Str.ofString "place" then b' else if y = Str.ofString "one" then a' else (fun y => if y = Str.ofString "one" then a else if y = Str.ofString "place" then b else m₀ y) y) =
    fun y => if y = Str.ofString "one" then a' else if y = Str.ofString "place" then b'' else m₀ y := by
  have d1 : Str.ofString "place" ≠ Str.ofString "one" := by decide
  funext y
  by_cases h1 : y = Str.ofString "place"
  · subst h1; simp [d1]
  · by_cases h2 : y = Str.ofString "one"
    · subst h2; simp [h1]
    · simp [h1, h2]
theorem greedy_step {x : List Nat} {a p j i : Nat} {mid : List (List Nat)} {t : List Nat} (h : greedy x (mid.take i) a = some p) (ht : mid[i]? = some t) (hf : first4 x t p = some j) : greedy x (mid.take (i + 1)) a = some (j + t.length) := by
  rw [List.take_add_one, ht, greedy_append, h]
  show (match first4 x t p with | none => none | some i => greedy x [] (i + t.length)) = _
  rw [hf]; rfl
theorem greedy_none {x : List Nat} {a p i : Nat} {mid : List (List Nat)} {t : List Nat} (h : greedy x (mid.take i) a = some p) (ht : mid[i]? = some t) (hf : first4 x t p = none) : greedy x mid a = none := by
  have hi : i < mid.length := by
    rcases Nat.lt_or_ge i mid.length with h | h
    · exact h
    · rw [List.getElem?_eq_none h] at ht; cases ht
  have e : mid = mid.take i ++ t :: mid.drop (i + 1) := by
    rw [List.getElem?_eq_getElem hi] at ht
    cases ht
    rw [← List.drop_eq_getElem_cons hi, List.take_append_drop]
  rw [e, greedy_append, h]
  show (match first4 x t p with | none => none | some i => _) = _
  rw [hf]
theorem found_end {h₀ h' : Heap} {L I ax : Addr} {oI oA : Obj} {x : List Nat} {A₀ : Nat} {mid : List (List Nat)} {nw all : List (Addr × Obj)} {m₀ : Str → Option Value} {a b a' b' : Option Value} {i p j : Nat} {t : List Nat} {k : Int} {u : Tok} {s₁ : Shared} {tk : Nat} {Q : Flow → Shared → Prop}
    (F : Fr h₀ L h' (fun y => if y = Str.ofString "place" then some (.int k u) else if y = Str.ofString "place" then b' else if y = Str.ofString "one" then a' else (fun y => if y = Str.ofString "one" then a else if y = Str.ofString "place" then b else m₀ y) y))
    (N : News h₀ L h' all) (hsub : ∀ p ∈ (I, oI) :: (ax, oA) :: nw, p ∈ all) (off : ∀ p ∈ (ax, oA) :: nw, p.1 ≠ I) (h : greedy x (mid.take i) A₀ = some p) (ht : mid[i]? = some t) (hf : first4 x t p = some j) (hk : k = ((j + t.length : Nat) : Int)) :
    TPost h₀ L (fun m nw' => ∃ nw'', nw' = (ax, oA) :: nw'' ∧ InvFound x A₀ mid m₀ nw (i + 1) m nw'') I oI s₁ Q .next { s₁ with heap := h', toks := tk } := by
  rw [mapF] at F
  subst hk
  refine TPost.next (TEnd.mk' F N hsub off ⟨nw, rfl, rfl, a', j + t.length, u, rfl, greedy_step h ht hf, ?_⟩)
  exact (hit_iff.mp (first_some hf).2.1).1
theorem strs_at {vs : List Value} {ts : List (List Nat)} (h : StrsAre vs (ts.map tx)) {i : Nat} {v : Value} (hv : vs[i]? = some v) : ∃ t u, v = .str (tx t) u ∧ ts[i]? = some t := by
  obtain ⟨k, u, e, hk⟩ := StrsAre.item h i v hv
  rw [List.getElem?_map] at hk
  obtain ⟨t, ht, rfl⟩ := Option.map_eq_some_iff.mp hk
  exact ⟨t, u, e, ht⟩
theorem strs_ends {vs : List Value} {t : List Nat} {mid : List (List Nat)} {z : List Nat} (h : StrsAre vs ((t :: (mid ++ [z])).map tx)) : ∃ u ms uz, vs = (.str (tx t) u :: ms) ++ [.str (tx z) uz] ∧ StrsAre ms (mid.map tx) := by
  rw [List.map_cons, List.map_append] at h
  cases h with
  | cons _ u h =>
    obtain ⟨ms, uz, rfl, hm⟩ := strs_split h
    exact ⟨u, ms, uz, rfl, hm⟩
end Mine

end
section
open PySem PySem.W PyProof.Rows PySem.Spec PySem.Calls
namespace Mine
abbrev natI (ps : List Nat) : List Int := ps.map Int.ofNat
section
variable {prog : Program} {w : World} {A : Around} {E : Value → Shared → Prop} {s : Shared} {h₀ : Heap} {L : Addr} {m : Str → Option Value} {env : Env}
open PySem.SeqAt in
theorem in_ints {l : Addr} {vs : List Value} {ps : List Nat} {k : Int} {p : Nat} {t : Tok} {b : Bool} {Q : Value → Shared → Prop} (hl : s.heap.IsList l vs.toArray) (hi : IntsAre vs (natI ps)) (hk : k = (p : Int)) (e : decide (p ∈ ps) = b) (h : Q (.bool b) s) :
    wpAny (model prog w) A (compareOp .In (.int k t) (.ref l)) Q E s := by
  refine in_listAt (fun y => match y with | .int n _ => n == k | _ => false) hl ?_ ?_
  · intro y hy
    have hy' : y ∈ vs := by simpa using hy
    obtain ⟨i, hyi⟩ := List.getElem?_of_mem hy'
    obtain ⟨n, u, rfl, _⟩ := IntsAre.at hi i y hyi
    exact (MeetsSeq.EqGives.int n k u t).at _ _
  · have : vs.toArray.any (fun y => match y with | .int n _ => n == k | _ => false) = b := by
      rw [← e, List.any_toArray, hk]
      clear hl e h hk
      generalize hns : natI ps = ns at hi
      induction hi generalizing ps with
      | nil =>
        have : ps = [] := List.map_eq_nil_iff.mp hns
        subst this; rfl
      | cons n u _ ih =>
        cases ps with
        | nil => cases hns
        | cons q ps =>
          injection hns with h1 h2
          rw [List.any_cons, ih h2, ← h1]
          show ((Int.ofNat q == (p : Int)) || decide (p ∈ ps)) = _
          rw [Bool.eq_iff_iff, Bool.or_eq_true, beq_iff_eq, decide_eq_true_eq, decide_eq_true_eq, List.mem_cons]
          have : Int.ofNat q = (p : Int) ↔ p = q := by
            show ((q : Nat) : Int) = (p : Int) ↔ _
            omega
          rw [this]
    rw [this]; exact h
open PySem.SeqAt in
/-- a text in a list of the empty one and another -/
theorem in_two {l : Addr} {s₁ y : List Nat} {t t1 t2 : Tok} {n : Nat} {b : Bool} {all : List (Addr × Obj)} {Q : Value → Shared → Prop} (N : News h₀ L s.heap ((l, W.listOf #[.str (PySem.Str.ofString "") t1, .str (tx y) t2] n) :: all)) (e : (s₁ == [] || s₁ == y) = b) (h : Q (.bool b) s) :
    wpAny (model prog w) A (compareOp .In (.str (tx s₁) t) (.ref l)) Q E s := by
  refine in_listAt (fun v => match v with | .str z _ => z == tx s₁ | _ => false) (News.isList N (.head _)) ?_ ?_
  · intro v hv
    have hv' : v = .str (PySem.Str.ofString "") t1 ∨ v = .str (tx y) t2 := by simpa using hv
    rcases hv' with rfl | rfl
    · exact (eqGives_str _ _ _ _).at _ _
    · exact (eqGives_str _ _ _ _).at _ _
  · have : (#[Value.str (PySem.Str.ofString "") t1, .str (tx y) t2] : Array Value).any (fun v => match v with | .str z _ => z == tx s₁ | _ => false) = b := by
      rw [← e]
      rw [show (#[Value.str (PySem.Str.ofString "") t1, .str (tx y) t2] : Array Value) = [Value.str (PySem.Str.ofString "") t1, .str (tx y) t2].toArray from rfl, List.any_toArray]
      show ((PySem.Str.ofString "" == tx s₁) || ((tx y == tx s₁) || false)) = _
      rw [Bool.or_false, ofString_nil, Bool.eq_iff_iff, Bool.or_eq_true, Bool.or_eq_true, beq_iff_eq, beq_iff_eq, beq_iff_eq, beq_iff_eq]
      constructor
      · rintro (h | h)
        · exact .inl (tx_inj h).symm
        · exact .inr (tx_inj h).symm
      · rintro (h | h)
        · exact .inl (by rw [h])
        · exact .inr (by rw [h])
    rw [this]; exact h
open PySem.SeqAt in
/-- the last one of a list against a number -/
theorem eq_last {l r : Addr} {ws : List Value} {acc : List Nat} {k : Int} {p : Nat} {t : Tok} {n n' : Nat} {b : Bool} {all : List (Addr × Obj)} {Q : Value → Shared → Prop} (N : News h₀ L s.heap ((r, W.listOf #[.int k t] n) :: (l, W.listOf ws.toArray n') :: all)) (hi : IntsAre ws (List.drop ((natI acc).length - 1) (natI acc))) (hk : k = (p : Int) - 1)
    (e : decide (acc.getLast? = some (p - 1) ∧ 1 ≤ p) = b) (hu : A.units < cLine) (h : Q (.bool b) s) :
    wpAny (model prog w) A (compareOp .Eq (.ref l) (.ref r)) Q E s := by
  have hr : s.heap.IsList r #[.int k t] := News.isList N (.head _)
  have hl : s.heap.IsList l ws.toArray := News.isList N (.tail _ (.head _))
  rcases List.eq_nil_or_concat acc with rfl | ⟨q, a, rfl⟩
  · have : ws = [] := by cases hi; rfl
    subst this
    refine eq_list_lengthsAt hl hr rfl hu ?_
    have : b = false := by rw [← e]; simp
    rw [← this]; exact h
  · obtain ⟨u, rfl⟩ : ∃ u, ws = [Value.int (a : Int) u] := by
      have hi' : IntsAre ws [(a : Int)] := by simpa [natI] using hi
      cases hi' with
      | cons _ u r => cases r; exact ⟨u, rfl⟩
    refine eq_listAt (e := fun _ => b) hl hr rfl hu ?_ ?_
    · intro j h1 h2
      have : j = 0 := by simp at h1; omega
      subst this
      have hb : b = ((a : Int) == k) := by
        rw [← e, hk, Bool.eq_iff_iff, decide_eq_true_eq, beq_iff_eq]
        simp
        omega
      rw [hb]
      exact (MeetsSeq.EqGives.int _ _ _ _).at _ _
    · show Q (.bool ((List.range 1).all fun _ => b)) s
      have : ((List.range 1).all fun _ => b) = b := by cases b <;> rfl
      rw [this]; exact h
/-- a name kept in a cell is stored -/
theorem store_cell {a : Str} {pa : Pos} {v : Value} {c : Addr} {oc : Obj} {v₀ : Option Value} {I : Addr} {oI : Obj} {rest : List (Addr × Obj)} {Q : Unit → Shared → Prop} (F : Fr h₀ env.locals s.heap m) (N : News h₀ env.locals s.heap ((I, oI) :: (c, oc) :: rest)) (hc : env.cells.lookup a = some c) (hk : env.scope.kind = .function) (hx : env.kindOf a = some .cell) (hd : oc.data = .cell v₀)
    (hI : I ≠ c) (off : ∀ p ∈ rest, p.1 ≠ c) (h : ∀ h' oc', oc'.data = .cell (some v) → Fr h₀ env.locals h' m → News h₀ env.locals h' ((I, oI) :: (c, oc') :: rest) → Q () { s with heap := h' }) :
    wpAny (model prog w) A (assign (.Name a pa) env v) Q E s := by
  have z := N (c, oc) (.tail _ (.head _))
  refine wpAny_assign_Name (wpAny_storeName_cell hk hx hc ⟨oc, z.1, hd⟩ fun h' hv hs => ?_)
  obtain ⟨o', ho', hd'⟩ := hv
  refine h h' o' hd' ⟨F.ns.sameBut hs (Ne.symm z.2.1), fun b ob e => (hs.2 b (fun q => ?_)).trans (F.keep b ob e), F.above⟩ fun p hp => ?_
  · rw [q, z.2.2] at e; cases e
  · rcases List.mem_cons.mp hp with rfl | hp
    · have y := N (I, oI) (.head _)
      exact ⟨hs.extBut _ _ hI y.1, y.2⟩
    · rcases List.mem_cons.mp hp with rfl | hp
      · exact ⟨ho', z.2⟩
      · have y := N p (.tail _ (.tail _ hp))
        exact ⟨hs.extBut _ _ (off p hp) y.1, y.2⟩
/-- a loop over a list of lists of two; the first name is kept in a cell -/
theorem iter_pairsC {ax : Addr} {oA : Obj} {vs : List Value} {a b : Str} {pa pb tp : Pos} {kk : Nat} {body : List Stmt} {c : Addr} {m₀ : Str → Option Value} {news : List (Addr × Obj)} {Q : Flow → Shared → Prop} (J : Inv)
    (hh : A.handled = none) (F : Fr h₀ env.locals s.heap m₀) (N : News h₀ env.locals s.heap news) (hl : s.heap.IsList ax vs.toArray) (hJm : ∀ i m nw, J m₀ news i m nw → (ax, oA) ∈ nw) (hj : J m₀ news 0 m₀ news)
    (hJc : ∀ i m nw, J m₀ news i m nw → ∃ oc v₀ rest, nw = (c, oc) :: rest ∧ oc.data = .cell v₀ ∧ ∀ p ∈ rest, p.1 ≠ c)
    (hPJ : ∀ i v m nw, vs[i]? = some v → J m₀ news i m nw → ∃ l x y k, v = .ref l ∧ (l, W.listOf #[x, y] k) ∈ nw)
    (hcl : env.cells.lookup a = some c) (hk : env.scope.kind = .function) (ha : env.kindOf a = some .cell) (hb : env.kindOf b = some .local) (hp : (env.scope.kind == .class || (env.scope.kind == .module && env.locals != env.globals)) = false)
    (turn : ∀ i l x y k m₁ oc rest oc' (s₁ : Shared) h tk I oI, vs[i]? = some (.ref l) → (l, W.listOf #[x, y] k) ∈ (c, oc) :: rest → J m₀ news i m₁ ((c, oc) :: rest) → (∀ p ∈ (c, oc) :: rest, p.1 ≠ I) → (∀ p ∈ rest, p.1 ≠ c) → oc'.data = .cell (some x) → Fr h₀ env.locals h (fun z => if z = b then some y else m₁ z) → News h₀ env.locals h ((I, oI) :: (c, oc') :: rest) →
      wpAny (model prog w) A (execs body env) (NPost h₀ env.locals (J m₀ news (i + 1)) I oI { s₁ with heap := h, toks := tk }) E { s₁ with heap := h, toks := tk })
    (done : ∀ m₁ news₁ h tk, J m₀ news vs.length m₁ news₁ → Fr h₀ env.locals h m₁ → News h₀ env.locals h news₁ → Q .next { s with heap := h, toks := tk }) :
    wpAny (model prog w) A (pyIter (.ref ax)) (fun it s₂ => LoopAtT prog w A h₀ env (.Tuple [.Name a pa, .Name b pb] kk tp) body Q E it s₂) E s := by
  have hlt : ax < s.heap.objs.size := by obtain ⟨_, e, _⟩ := hl; exact Heap.lt_size e
  have hmA := hJm _ _ _ hj
  have zA := N (ax, oA) hmA
  refine wpAny_pyIter_list hl ?_
  have W := Walks.list (prog := prog) (w := w) hh s.heap.objs.size ax (Nat.ne_of_lt hlt) vs.toArray
  refine ⟨_, _, _, vs.toArray.size, _, _, m₀, news, (fun i m nw => J m₀ news i m nw), rfl, W, ?_, ?_, ?_, ⟨⟨_, Heap.get?_push_size _ rfl, rfl, rfl⟩, hl.push _⟩, F.push _, (fun p hp => ⟨Heap.get?_push_of_some _ (N p hp).1, (N p hp).2⟩), (fun i s' v Q' st q => P.go_list st.1 q), hj, ?_, ?_⟩
  · intro hm
    rcases List.mem_cons.mp hm with h | h
    · exact absurd F.ns.lt (h ▸ Nat.lt_irrefl _)
    · exact zA.2.1 (List.mem_singleton.mp h).symm
  · intro b hb
    rw [List.mem_singleton.mp hb]
    exact next_is_new F
  · intro p hp hI
    exact absurd (Heap.lt_size (N p hp).1) ((List.mem_singleton.mp hI) ▸ Nat.lt_irrefl _)
  · rintro i v m₁ news₁ s₁ own hin hP hJ hoff hsub hget hall hst₁ F₁ N₁
    obtain ⟨l, x, y, k, rfl, hm⟩ := hPJ i v m₁ news₁ (by simpa using hP) hJ
    obtain ⟨oc, v₀, rest, rfl, hcd, hcoff⟩ := hJc i m₁ news₁ hJ
    obtain ⟨oI, hoI⟩ : ∃ oI, s₁.heap.get? s.heap.objs.size = some oI := by obtain ⟨o, e, _⟩ := hst₁.1; exact ⟨o, e⟩
    have hI₀ : h₀.get? s.heap.objs.size = none := next_is_new F
    have hmem : (s.heap.objs.size, oI) ∈ own := hall _ (List.mem_cons_self ..) hI₀ oI hoI
    have zA' := N₁ (ax, oA) (List.mem_append_right _ (hJm _ _ _ hJ))
    have hown : ∀ p ∈ own, p = (s.heap.objs.size, oI) ∨ p = (ax, oA) := fun p hp => by
      have h1 := hsub p hp
      have h2 := hget p hp
      rcases List.mem_cons.mp h1 with h1 | h1
      · rw [h1] at h2
        have h3 : some oI = some p.2 := hoI.symm.trans h2
        obtain ⟨p1, p2⟩ := p
        cases h1; cases h3; exact .inl rfl
      · have h1 := List.mem_singleton.mp h1
        rw [h1] at h2
        have h3 : some oA = some p.2 := zA'.1.symm.trans h2
        obtain ⟨p1, p2⟩ := p
        cases h1; cases h3; exact .inr rfl
    have hoff' : ∀ p ∈ (c, oc) :: rest, p.1 ≠ s.heap.objs.size := fun p hp e => hoff p hp (List.mem_singleton.mpr e)
    have N₂ : News h₀ env.locals s₁.heap ((s.heap.objs.size, oI) :: (c, oc) :: rest) := by
      intro p hp
      rcases List.mem_cons.mp hp with rfl | hp
      · exact N₁ _ (List.mem_append_left _ hmem)
      · exact N₁ p (List.mem_append_right _ hp)
    have zl := N₂ (l, PySem.W.listOf #[x, y] k) (.tail _ hm)
    refine kun_list F₁ N₂ ⟨_, zl.1, rfl, _, rfl⟩ hh rfl rfl fun h₁ F₁ N₁ => ?_
    show wpAny _ _ (assignInOrder [assign (.Name a pa) env, assign (.Name b pb) env] [x, y]) _ _ _
    refine assignInOrder_cons (store_cell F₁ N₁ hcl hk ha hcd (Ne.symm (hoff' _ (.head _))) hcoff fun h₂ oc' hcd' F₂ N₂ => ?_)
    refine assignInOrder_cons (wpAny_assign_Name (wpAny_storeName_local hb F₂.ns (fun h₃ hn₃ hs₃ => ?_) hp))
    have F₃ := F₂.set hn₃ hs₃
    have N₃ := N₂.set hs₃
    refine assignInOrder_nil ?_
    refine wpAny_mono (turn i l x y k m₁ oc rest oc' s₁ h₃ (s₁.toks + 1) s.heap.objs.size oI (by simpa using hP) hm hJ hoff' hcoff hcd' F₃ N₃) (fun f s₂ p => ?_) fun _ _ e => e
    obtain ⟨rfl, h', tk, m', news', e, F', N', off, hm'⟩ := p
    refine ⟨rfl, h', tk, m', news', e, F', fun p hp => ?_, fun p hp hI => off p hp (List.mem_singleton.mp hI), hm'⟩
    rcases List.mem_append.mp hp with hp | hp
    · rcases hown p hp with rfl | rfl
      · exact N' _ (List.mem_cons_self ..)
      · exact N' _ (List.mem_cons_of_mem _ (hJm _ _ _ hm'))
    · exact N' p (List.mem_cons_of_mem _ hp)
  · rintro h' tk m' news' F' N' _ hJ
    exact done m' news' h' tk (by simpa using hJ) F' N'
end
end Mine

end
section
open PySem PySem.W PyProof.Rows PySem.Spec PySem.Calls
namespace Mine
theorem T.led_mem {its : List T.Item} {p : T.Item} (h : p ∈ its) : (p.a, p.obj) ∈ T.led its := List.mem_map.mpr ⟨p, h, rfl⟩
theorem T.row_at {its : List T.Item} {i : Nat} {v : Value} (h : (T.refs its)[i]? = some v) : ∃ p, p ∈ its ∧ v = .ref p.a ∧ (T.dats its).reverse[i]? = some p.dat := by
  unfold T.refs at h
  rw [List.getElem?_map] at h
  obtain ⟨p, hp, rfl⟩ := Option.map_eq_some_iff.mp h
  refine ⟨p, List.mem_reverse.mp (List.mem_of_getElem? hp), rfl, ?_⟩
  rw [T.dats, ← List.map_reverse, List.getElem?_map, hp]; rfl
theorem one_len (x s ps : List Nat) : (stepOne x s ps).length ≤ ps.length := by
  unfold stepOne; rw [List.length_map]; exact List.length_filter_le _ _
theorem oft_len (x s ps : List Nat) : ∀ k, ((List.range k).foldl (fun acc p => if oftC x s ps acc p then acc ++ [p] else acc) []).length ≤ k
  | 0 => Nat.le_refl _
  | k + 1 => by
    rw [List.range_succ, List.foldl_append]
    have := oft_len x s ps k
    show List.length (if oftC x s ps _ k = true then _ else _) ≤ _
    split
    · rw [List.length_append]; simp; omega
    · omega
theorem step_len4 (x ps : List Nat) (k : Tok4) (h : ps.length ≤ x.length + 1) : (step4 x ps k).length ≤ x.length + 1 := by
  unfold step4
  split
  · exact oft_len x k.1 ps _
  · exact Nat.le_trans (one_len x k.1 ps) h
theorem places_len (x : List Nat) : ∀ (ks : List Tok4) (ps : List Nat), ps.length ≤ x.length + 1 → (ks.foldl (step4 x) ps).length ≤ x.length + 1
  | [], _, h => h
  | k :: ks, ps, h => places_len x ks _ (step_len4 x ps k h)
/-- the loop of fits -/
def InvFits (c : Addr) (x : List Nat) (ks : List Tok4) (rest : List (Addr × Obj)) : Inv := fun m₀ _ i m nw =>
  ∃ v1 v2 v3 P vs n oc v₀, m = (fun y => if y = Str.ofString "often" then v1 else if y = Str.ofString "reached" then v2 else if y = Str.ofString "place" then v3 else if y = Str.ofString "places" then some (.ref P) else m₀ y) ∧
    nw = (c, oc) :: (P, W.listOf vs.toArray n) :: rest ∧ oc.data = .cell v₀ ∧ IntsAre vs (natI ((ks.take i).foldl (step4 x) [0])) ∧ (@Ne Nat P c) ∧ ∀ p ∈ rest, p.1 ≠ c
theorem fits_start {c P : Addr} {oc : Obj} {v₀ : Option Value} {x : List Nat} {ks : List Tok4} {rest : List (Addr × Obj)} {m₀ : Str → Option Value} {t : Tok} (h : m₀ (Str.ofString "places") = some (.ref P)) (hd : oc.data = .cell v₀) (hP : @Ne Nat P c) (hr : ∀ p ∈ rest, p.1 ≠ c) :
    InvFits c x ks rest m₀ ((c, oc) :: (P, W.listOf #[.int 0 t] 0) :: rest) 0 m₀ ((c, oc) :: (P, W.listOf #[.int 0 t] 0) :: rest) := by
  refine ⟨m₀ (Str.ofString "often"), m₀ (Str.ofString "reached"), m₀ (Str.ofString "place"), P, [.int 0 t], 0, oc, v₀, ?_, rfl, hd, .cons _ _ .nil, hP, hr⟩
  funext y
  by_cases h1 : y = Str.ofString "often"
  · subst h1; simp
  · by_cases h2 : y = Str.ofString "reached"
    · subst h2; simp [h1]
    · by_cases h3 : y = Str.ofString "place"
      · subst h3; simp [h1, h2]
      · by_cases h4 : y = Str.ofString "places"
        · subst h4; simp [h1, h2, h3, h]
        · simp [h1, h2, h3, h4]
section
variable {prog : Program} {w : World} {A : Around} {E : Value → Shared → Prop} {s : Shared} {h₀ : Heap} {L : Addr} {m : Str → Option Value} {env : Env}
theorem iter_fits {D c P : Addr} {oc : Obj} {v₀ : Option Value} {x : List Nat} {r : List Tok4} {restR nwR rest : List (Addr × Obj)} {a b : Str} {pa pb tp : Pos} {kk : Nat} {body : List Stmt} {m₀ : Str → Option Value} {t : Tok} {Q : Flow → Shared → Prop}
    (R : T.RowIs D r restR nwR) (hsub : ∀ p ∈ nwR, p ∈ rest) (hd : oc.data = .cell v₀) (hP : @Ne Nat P c) (hr : ∀ p ∈ rest, p.1 ≠ c) (hpl : m₀ (Str.ofString "places") = some (.ref P))
    (hh : A.handled = none) (F : Fr h₀ env.locals s.heap m₀) (N : News h₀ env.locals s.heap ((P, W.listOf #[.int 0 t] 0) :: (c, oc) :: rest))
    (hcl : env.cells.lookup a = some c) (hk : env.scope.kind = .function) (ha : env.kindOf a = some .cell) (hb : env.kindOf b = some .local) (hp : (env.scope.kind == .class || (env.scope.kind == .module && env.locals != env.globals)) = false)
    (turn : ∀ i sg (o : Bool) u v1 v2 v3 P vs n oc' (s₁ : Shared) h tk I oI, r.reverse[i]? = some (sg, o) → IntsAre vs (natI ((r.reverse.take i).foldl (step4 x) [0])) → (@Ne Nat P c) → (@Ne Nat P I) → (@Ne Nat c I) → (∀ p ∈ rest, p.1 ≠ I) → oc'.data = .cell (some (.str (tx sg) u)) →
      Fr h₀ env.locals h (fun z => if z = b then some (.bool o) else (fun y => if y = Str.ofString "often" then v1 else if y = Str.ofString "reached" then v2 else if y = Str.ofString "place" then v3 else if y = Str.ofString "places" then some (.ref P) else m₀ y) z) → News h₀ env.locals h ((I, oI) :: (c, oc') :: (P, W.listOf vs.toArray n) :: rest) →
      wpAny (model prog w) A (execs body env) (NPost h₀ env.locals (InvFits c x r.reverse rest m₀ ((c, oc) :: (P, W.listOf #[.int 0 t] 0) :: rest) (i + 1)) I oI { s₁ with heap := h, toks := tk }) E { s₁ with heap := h, toks := tk })
    (done : ∀ v1 v2 v3 P vs n oc' h tk, IntsAre vs (natI (r.reverse.foldl (step4 x) [0])) → Fr h₀ env.locals h (fun y => if y = Str.ofString "often" then v1 else if y = Str.ofString "reached" then v2 else if y = Str.ofString "place" then v3 else if y = Str.ofString "places" then some (.ref P) else m₀ y) → News h₀ env.locals h ((c, oc') :: (P, W.listOf vs.toArray n) :: rest) → Q .next { s with heap := h, toks := tk }) :
    wpAny (model prog w) A (pyIter (.ref D)) (fun it s₂ => LoopAtT prog w A h₀ env (.Tuple [.Name a pa, .Name b pb] kk tp) body Q E it s₂) E s := by
  obtain ⟨its, n, e, hdat, _⟩ := id R
  have hmem : (D, W.listOf (T.refs its).toArray n) ∈ rest := hsub _ (by rw [e]; exact .head _)
  have hits : ∀ p ∈ its, (p.a, p.obj) ∈ rest := fun p hp => hsub _ (by rw [e]; exact .tail _ (List.mem_append_left _ (T.led_mem hp)))
  have hlr : (T.refs its).length = r.length := by rw [T.refs_len, ← hdat, T.dats_len]
  have N₁ : News h₀ env.locals s.heap ((c, oc) :: (P, W.listOf #[.int 0 t] 0) :: rest) := News.sub N swap_sub
  refine iter_pairsC (InvFits c x r.reverse rest) hh F N₁ (News.isList N₁ (.tail _ (.tail _ hmem))) (vs := T.refs its) (oA := W.listOf (T.refs its).toArray n) ?_ (fits_start hpl hd hP hr) ?_ ?_ hcl hk ha hb hp ?_ ?_
  · rintro i m nw ⟨_, _, _, _, _, _, _, _, _, rfl, _⟩
    exact .tail _ (.tail _ hmem)
  · rintro i m nw ⟨_, _, _, P', vs, n', oc', v', _, rfl, hd', _, hP', hr'⟩
    exact ⟨oc', v', _, rfl, hd', List.forall_mem_cons.mpr ⟨hP', hr'⟩⟩
  · rintro i v m nw hv ⟨_, _, _, _, _, _, _, _, _, rfl, _⟩
    obtain ⟨p, hp, rfl, _⟩ := T.row_at hv
    exact ⟨_, _, _, _, rfl, .tail _ (.tail _ (hits p hp))⟩
  · rintro i l xv y k m₁ oc₁ rest₁ oc' s₁ h tk I oI hv hm ⟨v1, v2, v3, P', vs, n', oc₂, v', rfl, e2, hd', hi, hP', hr'⟩ off hco hcd F' N'
    injection e2 with e3 e4
    subst e4
    obtain ⟨p, hp, ep, hpr⟩ := T.row_at hv
    rw [hdat] at hpr
    have hne : l ≠ c := by injection ep with ep; rw [ep]; exact hr' _ (hits p hp)
    have z1 := N' (l, W.listOf #[xv, y] k) (by
      rcases List.mem_cons.mp hm with h | h
      · injection h with h _; exact absurd h hne
      · exact .tail _ (.tail _ h))
    have z2 := N' (p.a, p.obj) (.tail _ (.tail _ (.tail _ (hits p hp))))
    injection ep with ep
    rw [ep] at z1
    have z3 := Option.some.inj (z1.1.symm.trans z2.1)
    injection z3 with _ _ z4
    injection z4 with z5 _
    have z6 : [xv, y] = [.str (tx p.x) p.u, .bool p.b] := congrArg Array.toList z5
    injection z6 with zx z7
    injection z7 with zy _
    subst zx; subst zy
    exact turn i p.x p.b p.u v1 v2 v3 P' vs n' oc' s₁ h tk I oI hpr hi hP' (off _ (.tail _ (.head _))) (off _ (.head _)) (fun q hq => off q (.tail _ (.tail _ hq))) hcd F' N'
  · rintro m₁ nw h tk ⟨v1, v2, v3, P', vs, n', oc', v', rfl, rfl, hd', hi, hP', hr'⟩ F' N'
    rw [hlr, ← List.length_reverse, List.take_length] at hi
    exact done v1 v2 v3 P' vs n' oc' h tk hi F' N'
theorem mapFt1 {m₀ : Str → Option Value} {a b c d a' b' c' d' : Option Value} : (fun y => if y = Str.ofString "places" then d' else if y = Str.ofString "place" then c' else if y = Str.ofString "reached" then b' else if y = Str.ofString "often" then a' else (fun y => if y = Str.ofString "often" then a else if y = Str.ofString "reached" then b else if y = Str.ofString "place" then c else if y = Str.ofString "places" then d else m₀ y) y) =
    fun y => if y = Str.ofString "often" then a' else if y = Str.ofString "reached" then b' else if y = Str.ofString "place" then c' else if y = Str.ofString "places" then d' else m₀ y := by
  have d1 : Str.ofString "places" ≠ Str.ofString "place" := by decide
  have d2 : Str.ofString "places" ≠ Str.ofString "reached" := by decide
  have d3 : Str.ofString "places" ≠ Str.ofString "often" := by decide
  have d4 : Str.ofString "place" ≠ Str.ofString "reached" := by decide
  have d5 : Str.ofString "place" ≠ Str.ofString "often" := by decide
  have d6 : Str.ofString "reached" ≠ Str.ofString "often" := by decide
  funext y
  by_cases h1 : y = Str.ofString "places"
  · subst h1; simp [d1, d2, d3]
  · by_cases h2 : y = Str.ofString "place"
    · subst h2; simp [h1, d4, d5]
    · by_cases h3 : y = Str.ofString "reached"
      · subst h3; simp [h1, h2, d6]
      · by_cases h4 : y = Str.ofString "often"
        · subst h4; simp [h1, h2, h3]
        · simp [h1, h2, h3, h4]
theorem mapFt2 {m₀ : Str → Option Value} {a b c d a' b' b'' d' : Option Value} : (fun y => if y = Str.ofString "places" then d' else if y = Str.ofString "reached" then b' else if y = Str.ofString "reached" then b'' else if y = Str.ofString "often" then a' else (fun y => if y = Str.ofString "often" then a else if y = Str.ofString "reached" then b else if y = Str.ofString "place" then c else if y = Str.ofString "places" then d else m₀ y) y) =
    fun y => if y = Str.ofString "often" then a' else if y = Str.ofString "reached" then b' else if y = Str.ofString "place" then c else if y = Str.ofString "places" then d' else m₀ y := by
  have d1 : Str.ofString "places" ≠ Str.ofString "place" := by decide
  have d2 : Str.ofString "places" ≠ Str.ofString "reached" := by decide
  have d3 : Str.ofString "places" ≠ Str.ofString "often" := by decide
  have d6 : Str.ofString "reached" ≠ Str.ofString "often" := by decide
  funext y
  by_cases h1 : y = Str.ofString "places"
  · subst h1; simp [d1, d2, d3]
  · by_cases h3 : y = Str.ofString "reached"
    · subst h3; simp [h1, d6]
    · by_cases h4 : y = Str.ofString "often"
      · subst h4; simp [h1, h3]
      · simp [h1, h3, h4]
theorem fits_end {h' : Heap} {c I R : Addr} {oI oc : Obj} {x : List Nat} {ks : List Tok4} {rest nw₀ all : List (Addr × Obj)} {m₀ : Str → Option Value} {v1 v2 v3 v₀ : Option Value} {i n : Nat} {k : Tok4} {vs : List Value} {s₁ : Shared} {tk : Nat} {m' : Str → Option Value}
    (F : Fr h₀ L h' m') (hm : m' = fun y => if y = Str.ofString "often" then v1 else if y = Str.ofString "reached" then v2 else if y = Str.ofString "place" then v3 else if y = Str.ofString "places" then some (.ref R) else m₀ y)
    (N : News h₀ L h' all) (hsub : ∀ p ∈ (I, oI) :: (c, oc) :: (R, W.listOf vs.toArray n) :: rest, p ∈ all) (hd : oc.data = .cell v₀) (hRc : @Ne Nat R c) (hRI : @Ne Nat R I) (hcI : @Ne Nat c I) (hrc : ∀ p ∈ rest, p.1 ≠ c) (hrI : ∀ p ∈ rest, p.1 ≠ I)
    (hk : ks[i]? = some k) (hi : IntsAre vs (natI (step4 x ((ks.take i).foldl (step4 x) [0]) k))) :
    NPost h₀ L (InvFits c x ks rest m₀ nw₀ (i + 1)) I oI s₁ .next { s₁ with heap := h', toks := tk } := by
  subst hm
  refine ⟨rfl, TEnd.mk' F N hsub (List.forall_mem_cons.mpr ⟨hcI, List.forall_mem_cons.mpr ⟨hRI, hrI⟩⟩) ⟨v1, v2, v3, R, vs, n, oc, v₀, rfl, rfl, hd, ?_, hRc, hrc⟩⟩
  rw [List.take_add_one, hk, List.foldl_append]
  exact hi
/-- the inner loop of fits -/
def InvOft (R : Addr) (x sg ps : List Nat) (base : List (Addr × Obj)) : Inv := fun m₀ _ i m nw => ∃ v0 vs n, m = (fun y => if y = Str.ofString "place" then v0 else m₀ y) ∧ nw = (R, W.listOf vs.toArray n) :: base ∧ IntsAre vs (natI ((List.range i).foldl (fun acc p => if oftC x sg ps acc p then acc ++ [p] else acc) []))
theorem ints_snoc {k : Int} {t : Tok} : ∀ {vs : List Value} {ns : List Int}, IntsAre vs ns → IntsAre (vs ++ [.int k t]) (ns ++ [k])
  | _, _, .nil => .cons k t .nil
  | _, _, .cons z u r => .cons z u (ints_snoc r)
theorem oft_yes {x sg ps acc : List Nat} {i : Nat} {vs : List Value} {t : Tok} (hacc : acc = (List.range i).foldl (fun acc p => if oftC x sg ps acc p then acc ++ [p] else acc) []) (hi : IntsAre vs (natI acc)) (hc : oftC x sg ps acc i = true) :
    IntsAre (vs ++ [Value.int (0 + (i : Int)) t]) (natI ((List.range (i + 1)).foldl (fun acc p => if oftC x sg ps acc p then acc ++ [p] else acc) [])) := by
  rw [List.range_succ, List.foldl_append, ← hacc]
  show IntsAre _ (natI (if oftC x sg ps acc i = true then acc ++ [i] else acc))
  rw [if_pos hc]
  have e : (0 + (i : Int)) = Int.ofNat i := by show _ = ((i : Nat) : Int); omega
  rw [e, natI, List.map_append]
  exact ints_snoc hi
theorem oft_no {x sg ps acc : List Nat} {i : Nat} {vs : List Value} (hacc : acc = (List.range i).foldl (fun acc p => if oftC x sg ps acc p then acc ++ [p] else acc) []) (hi : IntsAre vs (natI acc)) (hc : oftC x sg ps acc i = false) :
    IntsAre vs (natI ((List.range (i + 1)).foldl (fun acc p => if oftC x sg ps acc p then acc ++ [p] else acc) [])) := by
  rw [List.range_succ, List.foldl_append, ← hacc]
  show IntsAre _ (natI (if oftC x sg ps acc i = true then acc ++ [i] else acc))
  rw [if_neg (by rw [hc]; decide)]
  exact hi
theorem in_end {h' : Heap} {I R : Addr} {oI : Obj} {x sg ps : List Nat} {base nw₀ all : List (Addr × Obj)} {m₀ : Str → Option Value} {v0 v1 : Option Value} {i n : Nat} {vs : List Value} {s₁ : Shared} {tk : Nat} {Q : Flow → Shared → Prop}
    (F : Fr h₀ L h' (fun z => if z = Str.ofString "place" then v1 else (fun y => if y = Str.ofString "place" then v0 else m₀ y) z)) (N : News h₀ L h' all) (hsub : ∀ p ∈ (I, oI) :: (R, W.listOf vs.toArray n) :: base, p ∈ all) (off : ∀ p ∈ (R, W.listOf vs.toArray n) :: base, p.1 ≠ I)
    (hi : IntsAre vs (natI ((List.range (i + 1)).foldl (fun acc p => if oftC x sg ps acc p then acc ++ [p] else acc) []))) :
    TPost h₀ L (InvOft R x sg ps base m₀ nw₀ (i + 1)) I oI s₁ Q .next { s₁ with heap := h', toks := tk } := by
  rw [map_over] at F
  exact TPost.next (TEnd.mk' F N hsub off ⟨v1, vs, n, rfl, rfl, hi⟩)
theorem range_size (n : Nat) : Builtin.Range.rangeSize 0 ((n : Int) + 1) 1 = ((n + 1 : Nat) : Int) := by
  unfold Builtin.Range.rangeSize
  rw [if_pos (by decide), if_pos (by omega)]
  omega
theorem fits_long (k : Int) (h0 : 0 ≤ k) (h1 : k ≤ 2000) : Builtin.Range.rangeFitsLong k = true := by
  unfold Builtin.Range.rangeFitsLong
  simp
  omega
theorem range_small (n : Nat) (h : n ≤ 1000) : Builtin.Range.small 0 ((n : Int) + 1) 1 = true := by
  unfold Builtin.Range.small
  rw [range_size, fits_long 0 (by omega) (by omega), fits_long _ (by omega) (by omega), fits_long 1 (by omega) (by omega), fits_long _ (by omega) (by omega), if_pos (by decide), fits_long _ (by omega) (by omega)]
  simp
theorem iter_oft {R r : Addr} {x sg ps : List Nat} {base : List (Addr × Obj)} {y : Str} {body : List Stmt} {t u v : Tok} {m₀ : Str → Option Value} {Q : Flow → Shared → Prop} (hh : A.handled = none) (hr : IsRange s.heap r 0 ((x.length : Int) + 1) 1 t u v) (hxl : x.length ≤ 1000) (F : Fr h₀ env.locals s.heap m₀) (N : News h₀ env.locals s.heap ((R, W.listOf #[] 0) :: base))
    (turn : ∀ i t' v0 avs n acc h tk I oI, i < x.length + 1 → acc = (List.range i).foldl (fun acc p => if oftC x sg ps acc p then acc ++ [p] else acc) [] → acc.length ≤ i → IntsAre avs (natI acc) → (@Ne Nat R I) → (∀ p ∈ base, p.1 ≠ I) → Fr h₀ env.locals h (fun z => if z = y then some (.int (0 + (i : Int)) t') else (fun y => if y = Str.ofString "place" then v0 else m₀ y) z) → News h₀ env.locals h ((I, oI) :: (R, W.listOf avs.toArray n) :: base) →
      wpAny (model prog w) A (execs body env) (TPost h₀ env.locals (InvOft R x sg ps base m₀ ((R, W.listOf #[] 0) :: base) (i + 1)) I oI { s with heap := h, toks := tk } Q) E { s with heap := h, toks := tk })
    (done : ∀ v0 avs n h tk, IntsAre avs (natI (stepOft x sg ps)) → Fr h₀ env.locals h (fun y => if y = Str.ofString "place" then v0 else m₀ y) → News h₀ env.locals h ((R, W.listOf avs.toArray n) :: base) → Q .next { s with heap := h, toks := tk }) :
    wpAny (model prog w) A (pyIter (.ref r)) (fun it s₂ => LoopAtV prog w A h₀ env y body Q E it s₂) E s := by
  refine iter_range (n := x.length + 1) (InvOft R x sg ps base) hh hr (range_small _ hxl) (range_size _) F N ⟨_, [], 0, map_self m₀ (Str.ofString "place"), rfl, .nil⟩ ?_ ?_
  · rintro i t' m₁ nw h tk I oI hi ⟨v0, avs, n, rfl, rfl, ha⟩ off F' N'
    exact turn i t' v0 avs n _ h tk I oI hi rfl (oft_len x sg ps i) ha (off _ (.head _)) (fun p hp => off p (.tail _ hp)) F' N'
  · rintro m₁ nw h tk ⟨v0, avs, n, rfl, rfl, ha⟩ F' N'
    exact done v0 avs n h tk ha F' N'
/-- the comprehension of fits -/
theorem comp_one {P : Addr} {x sg ps : List Nat} {vs : List Value} {n : Nat} {nw : List (Addr × Obj)} {elt : Expr} {y : Str} {py : Pos} {ifs : List Expr} {scope : Scope} {cl : List (Str × Addr)} {mf : Addr → Str → Option Value} {Q : Value → Shared → Prop}
    (hy : scope.names.lookup y = some .local) (hkind : scope.kind = .function) (hh : A.handled = none) (F : Fr h₀ L s.heap m) (N : News h₀ L s.heap nw) (hm : (P, W.listOf vs.toArray n) ∈ nw) (hi : IntsAre vs (natI ps)) (hlen : ps.length ≤ sizeLine)
    (turn : ∀ (p : Nat) (u : Tok) (I : Addr) (oI : Obj) (C : Addr) (oC : Obj) (Dd : Addr) (m₂ : Str → Option Value) (ys : List Value) (s₁ : Shared) (h : Heap) (tk : Nat) (E' : Value → Shared → Prop), p ∈ ps → LCg.NsObj oC m₂ → m₂ y = some (.int (p : Int) u) → Fr h₀ L h m → News h₀ L h ((I, oI) :: (C, oC) :: (Dd, LCg.lst ys) :: nw) → LCg.Off3 I C Dd nw → ((@Ne Nat I C) ∧ (@Ne Nat I Dd) ∧ (@Ne Nat C Dd)) →
      wpAny (model prog w) A (testsOf ifs (compEnvC scope cl C env)) (fun ok s₄ =>
        if ok = true then wpAny (model prog w) A (eval elt (compEnvC scope cl C env)) (fun z s₅ => GEnd h₀ L m { s₁ with heap := h, toks := tk } I oI C Dd (LCg.lst ys) (fun nw' _ => nw' = nw ∧ okAt x sg p = true ∧ ∃ t, z = .int ((p : Int) + 1) t) s₅) E' s₄
        else GEnd h₀ L m { s₁ with heap := h, toks := tk } I oI C Dd (LCg.lst ys) (fun nw' _ => nw' = nw ∧ okAt x sg p = false) s₄) E' { s₁ with heap := h, toks := tk })
    (fin : ∀ D ys h tk, IntsAre ys (natI (stepOne x sg ps)) → Fr h₀ L h (mf D) → News h₀ L h ((D, LCg.lst ys) :: nw) → LCg.Off1 D nw → Q (.ref D) { s with heap := h, toks := tk }) :
    wpAny (model prog w) A (pyIter (.ref P)) (fun it s₂ => Mine.P.CompAtM prog w A h₀ L m env elt (.Name y py) ifs scope cl mf Q it s₂) E s := by
  have hl : vs.length = ps.length := by rw [hi.length]; simp
  let J : Nat → List Value → List (Addr × Obj) → Nat → Prop := fun i ys nw' _ => nw' = nw ∧ ys.length ≤ i ∧ IntsAre ys (natI (((ps.take i).filter (okAt x sg)).map (· + 1)))
  refine Mine.P.compM_list J hh F N (vs := vs) ?_ (by rw [hl]; exact hlen) ?_ (fun i ys nw t t' h _ => h) ⟨rfl, Nat.le_refl _, .nil⟩ ?_ ?_
  · rintro i ys nw' t ⟨rfl, _⟩
    exact .inr ⟨_, hm, rfl, n, rfl⟩
  · rintro i ys nw' t ⟨_, h, _⟩; exact h
  · rintro s' ⟨hp, rfl⟩
    refine gturn_name hy hkind ?_
    rintro i v ys nw' I oI C oC Dd m₂ h t₀ tk E' hin hP ⟨rfl, hj1, hj2⟩ hle hC hx F' N' off ne
    obtain ⟨k, u, rfl, hk⟩ := IntsAre.at hi i v hP
    rw [natI, List.getElem?_map] at hk
    obtain ⟨p, hp, rfl⟩ := Option.map_eq_some_iff.mp hk
    refine wpAny_mono (turn p u I oI C oC Dd m₂ ys _ h tk E' (List.mem_of_getElem? hp) hC hx F' N' off ne) (fun ok s₄ h₄ => ?_) fun _ _ e => e
    cases ok with
    | true =>
      simp only [if_true] at h₄ ⊢
      refine wpAny_mono h₄ (fun z s₅ h₅ => ?_) fun _ _ e => e
      obtain ⟨h', tk', oC', m', nw'', e, F₂, N₂, off₂, hC₂, rfl, hok, t, rfl⟩ := h₅
      refine ⟨h', tk', oC', m', _, e, F₂, N₂, off₂, hC₂, rfl, by rw [List.length_append]; simp; omega, ?_⟩
      have e1 : (((ps.take (i + 1)).filter (okAt x sg)).map (· + 1)) = ((ps.take i).filter (okAt x sg)).map (· + 1) ++ [p + 1] := by
        rw [List.take_add_one, hp, List.filter_append, List.map_append]
        simp [hok]
      rw [e1, natI, List.map_append]
      have e2 : ((p : Int) + 1) = Int.ofNat (p + 1) := by show _ = ((p + 1 : Nat) : Int); omega
      rw [e2]
      exact ints_snoc hj2
    | false =>
      simp only [Bool.false_eq_true, if_false] at h₄ ⊢
      obtain ⟨h', tk', oC', m', nw'', e, F₂, N₂, off₂, hC₂, rfl, hok⟩ := h₄
      refine ⟨h', tk', oC', m', _, e, F₂, N₂, off₂, hC₂, rfl, by omega, ?_⟩
      have e1 : (((ps.take (i + 1)).filter (okAt x sg)).map (· + 1)) = ((ps.take i).filter (okAt x sg)).map (· + 1) := by
        rw [List.take_add_one, hp, List.filter_append]
        simp [hok]
      rw [e1]; exact hj2
  · rintro D h tk ys nw' ⟨rfl, hj1, hj2⟩ F' N' o1
    rw [hl, List.take_length] at hj2
    exact fin D ys h tk hj2 F' N' o1
end
end Mine

end
section
open PySem PySem.W PyProof.Rows PySem.Spec PySem.Calls
namespace Mine

local macro_rules | `(tactic| walk_at "call builtin:str.translate") => `(tactic| (k_here; (with_reducible show wpAny _ _ (call (Value.builtin "str.translate") [Value.str _ _, Value.ref _]) _ _ _); k_dflt (refine' tr_step ?k1 ?k2 ?k3 ?k4 ?k5 ?k6 ?k7 ?k8 ?_; (case k1 => k_asm); (case k2 => k_asm); (case k3 => k_asm); (case k4 => rfl); (case k5 => decide +kernel); (case k6 => rfl); (case k7 => rfl); (case k8 => first | assumption | (simp only [Array.size_map]; assumption)); k_whole); intro h' tk' t' F' N'))
local macro_rules | `(tactic| walk_at "getMethod str") => `(tactic| (k_here; first | refine gm_translate ?_ | refine gm_encode ?_))
local macro_rules | `(tactic| walk_at "call type:str") => `(tactic| (k_here; (with_reducible show wpAny _ _ (call (Value.type "str") [Value.bytes _ _, Value.str _ _]) _ _ _); refine str_latin1 (by omega) ?_; intro t' k'))
local macro_rules | `(tactic| walk_at "call builtin:str.encode") => `(tactic| (k_here; (with_reducible show wpAny _ _ (call (Value.builtin "str.encode") [Value.str _ _, Value.str _ _]) _ _ _); refine encode_call (esc_fit (by assumption)) esc_b256 ?_; intro t' k'))

theorem escape_str {w : World} {mean : ExcName → Option Value} {mg mb : Str → Option Value} (x : Str) (t : Tok) (news : List (Addr × Obj)) (hx : 2 * x.cps.size ≤ sizeLine) :
  Claim 1 Challenge.rw_dn0142_04.row.prog w (hd.heap_39 w.params) hd.view_39 (looseW hd.view_39 [Str.ofString "_special_chars_map"]) mean mg mb 26 news [.str x t] (fun t' => .str (tx (esc x.cps.toList)) t') := by
  w_top off
  k_fill
  dsimp only [Claim]
  intros
  rename_i hret
  refine wpAny_call ?_
  k_dflt cell_enter
  k_steps
  exact hret _ _ _ (by assumption) (by assumption)
end Mine

end
section
open PySem PySem.W PyProof.Rows PySem.Spec PySem.Calls
namespace Mine
theorem special_call {w : World} {mean : ExcName → Option Value} {mg mb : Str → Option Value} (c : Nat) (t : Tok) (news : List (Addr × Obj)):
  Claim 1 Challenge.rw_dn0142_04.row.prog w (hd.heap_39 w.params) hd.view_39 (looseW hd.view_39 [Str.ofString "_special_chars_map"]) mean mg mb 33 news [.str ⟨#[c]⟩ t] (fun _ => .bool (special c)) := by
  w_top off
  k_fill
  dsimp only [Claim]
  intros
  rename_i hret
  refine wpAny_call ?_
  k_dflt cell_enter
  k_steps
  all_goals (refine cb_retB hret ?_ (by assumption) (by first | assumption | exact Mine.News.tl (by assumption)))
  all_goals clear hret
  all_goals first | exact (special_iff.mpr (by omega)).symm | exact special_any (by omega)
end Mine

end
section
open PySem PySem.W PyProof.Rows PySem.Spec PySem.Calls
namespace Mine
local macro_rules | `(tactic| k_all) => `(tactic| first | assumption | exact ne_allLt (by assumption) | exact ne_lt (by assumption))
theorem fm (x m : Int) (h : 0 ≤ m) : x.fmod m = x % m := Int.fmod_eq_emod_of_nonneg _ h
theorem fd (x m : Int) (h : 0 ≤ m) : x.fdiv m = x / m := Int.fdiv_eq_ediv_of_nonneg _ h
theorem txs_fit {x l : List Nat} (hx : x.length ≤ 100000) (hl : l.length ≤ 100000) : (tx x).cps.size + (tx l).cps.size ≤ sizeLine := by rw [sizeLine_eq]; simp; omega
theorem of_four : PySem.Str.ofString ".*\\a" = tx [46, 42, 92, 97] := by decide +kernel
theorem of_two : PySem.Str.ofString "ab" = tx [97, 98] := by decide +kernel
local macro_rules | `(tactic| walk_at "binaryOp Mod int int") => `(tactic| (k_here; refine mod_val (by assumption) (by decide) ?_; intro _ _))
local macro_rules | `(tactic| walk_at "exec For Name Name cons nil") => `(tactic| (k_here; (rename Fr _ _ _ _ => lF'); (with_unfolding_all refine' stop_For lF' ?k1 ?k2 ?_; (case k1 => exact rfl); (case k2 => exact rfl); k_whole)))
local macro_rules | `(tactic| walk_at "getItem ref int") => `(tactic| (k_here; k_dflt (refine last_get (News.isList (by assumption) (.tail _ (.head _))) (by assumption) ?_)))
local macro_rules | `(tactic| walk_at "inplaceOp Add str str") => `(tactic| (k_here; refine iadd_rule (b := tx [_]) (txs_fit (by assumption) (by simp)) ?_; intro _ _))
local macro_rules | `(tactic| walk_at "setItem ref int") => `(tactic| (k_here; k_dflt (refine' set_last ?k1 ?k2 ?k3 ?_; (case k1 => k_asm); (case k2 => k_asm); (case k3 => k_upd)); intro h' F' N'))
local macro_rules | `(tactic| walk_at "subscriptTail Constant BinOp str int") => `(tactic| (k_here; k_dflt (first | refine str_at of_four (by assumption) (by assumption) (by decide) ?_ | refine str_at of_two (by assumption) (by assumption) (by decide) ?_)))
local macro_rules | `(tactic| walk_at "call builtin:list.append") => `(tactic| (k_here; (with_reducible show wpAny _ _ (call (Value.builtin _) [Value.ref _, _]) _ _ _); k_dflt (refine' append_K ?k1 ?k2 ?k3 ?_ ?z; (case k1 => k_asm); (case k2 => k_asm); (case k3 => k_upd); (case z => (rw [sizeLine_eq]; simp; omega)); k_whole); intro h' F' N'))
theorem fm4_lo (k : Int) : 0 ≤ (k.fdiv 5).fmod 4 := by rw [fm _ _ (by decide)]; omega
theorem fm4_hi (k : Int) : (k.fdiv 5).fmod 4 < (([46, 42, 92, 97] : List Nat).length : Int) := by rw [fm _ _ (by decide)]; simp; omega
theorem fm2_lo (k : Int) : 0 ≤ (k.fdiv 5).fmod 2 := by rw [fm _ _ (by decide)]; omega
theorem fm2_hi (k : Int) : (k.fdiv 5).fmod 2 < (([97, 98] : List Nat).length : Int) := by rw [fm _ _ (by decide)]; simp; omega
theorem char_at {l : List Nat} {k : Int} (h0 : 0 ≤ k) (h1 : k < l.length) : (PySem.Txt.charAt (tx l) k).getD 0 = l.getD k.toNat 0 := by
  have hlt : k.toNat < l.length := by omega
  have : seqIndex? k (tx l).length = some k.toNat := by
    unfold seqIndex?
    rw [tx_len]
    have hk : ¬ k < 0 := by omega
    simp [hk]
    omega
  unfold PySem.Txt.charAt
  rw [this]
  simp [hlt]
theorem sT1 {k : Int} (h : k.fmod 5 = 1) : (PySem.Txt.charAt (Str.ofString ".*\\a") ((k.fdiv 5).fmod 4)).getD 0 = signT k := by
  rw [of_four, char_at (fm4_lo k) (fm4_hi k)]
  rw [fm _ _ (by decide)] at h; unfold signT; rw [if_pos h, fm _ _ (by decide), fd _ _ (by decide)]
theorem sT2 {k : Int} (h : k.fmod 5 = 2) : (PySem.Txt.charAt (Str.ofString "ab") ((k.fdiv 5).fmod 2)).getD 0 = signT k := by
  rw [of_two, char_at (fm2_lo k) (fm2_hi k)]
  rw [fm _ _ (by decide)] at h; unfold signT; rw [if_neg (by omega), if_pos h, fm _ _ (by decide), fd _ _ (by decide)]
theorem sT3 {k : Int} (h : k.fmod 5 = 3) : ((k.fdiv 5).fmod 128).toNat = signT k := by
  rw [fm _ _ (by decide)] at h; unfold signT; rw [if_neg (by omega), if_neg (by omega), if_pos h, fm _ _ (by decide), fd _ _ (by decide)]
theorem sT4 {k : Int} (h : k.fmod 5 = 4) : ((k.fdiv 5).fmod 55296).toNat = signT k := by
  rw [fm _ _ (by decide)] at h; unfold signT; rw [if_neg (by omega), if_neg (by omega), if_neg (by omega), fm _ _ (by decide), fd _ _ (by decide)]
theorem texts_call {w : World} {mean : ExcName → Option Value} {mg mb : Str → Option Value} (S : Addr) (ws : List Value) (ns : List Int) (n : Nat) (news : List (Addr × Obj)) (hw : IntsAre ws ns) (hn : ns.length ≤ 20) (hS : (S, W.listOf ws.toArray n) ∈ news) :
  ClaimP 1 Challenge.rw_dn0142_04.row.prog w (hd.heap_39 w.params) hd.view_39 (looseW hd.view_39 [Str.ofString "_special_chars_map"]) mean mg mb 40 news [.ref S] (fun v nw => ∃ D vs n', v = .ref D ∧ nw = (D, W.listOf vs.toArray n') :: news ∧ StrsAre vs ((textsV ns).reverse.map tx) ∧ ∀ p ∈ news, p.1 < D) := by
  w_top off
  k_fill
  dsimp only [ClaimP]
  intros
  rename_i hret
  refine wpAny_call ?_
  k_dflt cell_enter
  k_steps
  unfold Stop
  refine iter_texts hw rfl (by assumption) (by assumption) hS (News.isList (by assumption) (.tail _ hS)) ?turn ?done
  case turn =>
    intro i k u v0 v1 vs n h tk I oI hk hs off F N
    have hk5 : k.fmod 5 = 0 ∨ k.fmod 5 = 1 ∨ k.fmod 5 = 2 ∨ k.fmod 5 = 3 ∨ k.fmod 5 = 4 := by rw [fm _ _ (by decide)]; omega
    obtain ⟨hf1, hf2, hf3⟩ := texts_facts (ns.take i)
    have hti : (ns.take i).length ≤ 20 := by simp; omega
    have hID := neN (Ne.symm (off _ (.head _)))
    have off' : ∀ p ∈ news, p.1 ≠ I := fun p hp => off p (.tail _ hp)
    clear off
    obtain ⟨t, q, etq⟩ : ∃ t q, textsV (ns.take i) = t :: q := by
      cases h : textsV (ns.take i) with
      | nil => exact absurd h hf1
      | cons t q => exact ⟨t, q, rfl⟩
    rw [etq] at hs hf2 hf3
    have hs' := hs
    rw [List.reverse_cons, List.map_append] at hs'
    obtain ⟨vs₀, u0, rfl, hs₀⟩ := strs_split hs'
    have hlen := hs₀.length
    rw [List.length_map, List.length_reverse] at hlen
    rw [sumT_cons] at hf3
    rw [List.length_cons] at hf2
    have hvl : vs₀.length ≤ 1000000 := by omega
    have htl : t.length ≤ 100000 := by omega
    have hq4 := fm4_lo k
    have hq4' := fm4_hi k
    have hq2 := fm2_lo k
    have hq2' := fm2_hi k
    rcases hk5 with hk5 | hk5 | hk5 | hk5 | hk5
    all_goals k_steps
    · exact texts_new (by assumption) (by assumption) hID off' hk hs etq hk5
    · exact texts_add (by assumption) (by assumption) hID off' hk hs₀ etq (by omega) (sT1 hk5)
    · exact texts_add (by assumption) (by assumption) hID off' hk hs₀ etq (by omega) (sT2 hk5)
    · exact texts_add (by assumption) (by assumption) hID off' hk hs₀ etq (by omega) (sT3 hk5)
    · exact texts_add (by assumption) (by assumption) hID off' hk hs₀ etq (by omega) (sT4 hk5)
  case done =>
    intro v0 v1 vs n h tk hs F N
    k_steps
    exact hret _ _ _ _ ⟨_, _, _, rfl, rfl, hs, by assumption⟩ (by assumption) (by assumption)
end Mine

end
section
open PySem PySem.W PyProof.Rows PySem.Spec PySem.Calls
namespace Mine
local macro_rules | `(tactic| walk_at "no such key 0") => `(tactic| fail "x")
local macro_rules | `(tactic| k_all) => `(tactic| first | assumption | exact ne_allLt (by assumption) | exact ne_lt (by assumption))
local macro_rules | `(tactic| walk_at "call ref") => `(tactic| (k_here; (with_reducible show wpAny _ _ (call (Value.ref 33) [Value.str _ _]) _ _ _); k_dflt (refine' claim_use (special_call _ _ _) ?k1 ?k2 ?k3 ?k4 ?k5 ?k6 ?k7 ?k8 ?_; (case k1 => k_asm); (case k2 => k_asm); (case k3 => k_asm); (case k4 => k_asm); (case k5 => k_asm); (case k6 => first | exact rfl | assumption); (case k7 => ktr_room); (case k8 => ktr_units)); intro t9 h9 tk9 F9 N9; (try dsimp only); (try k_fold)))
local macro_rules | `(tactic| walk_at "exec For") => `(tactic| (k_here; (rename Fr _ _ _ _ => lF'); (with_unfolding_all refine' stop_For lF' ?k1 ?k2 ?_; (case k1 => exact rfl); (case k2 => exact rfl); k_whole)))
local macro_rules | `(tactic| walk_at "call builtin:list.append") => `(tactic| (k_here; (with_reducible show wpAny _ _ (call (Value.builtin _) [Value.ref _, Value.ref _]) _ _ _); k_dflt (first
  | (refine' T.row_append (x := [_]) ?k1 ?k2 ?k3 ?k4 ?k5 ?k6 ?_; (case k1 => k_asm); (case k2 => k_asm); (case k3 => assumption); (case k4 => assumption); (case k5 => exact ne_allLt (by assumption)); (case k6 => omega))
  | (refine' T.row_append (x := []) ?k1 ?k2 ?k3 ?k4 ?k5 ?k6 ?_; (case k1 => k_asm); (case k2 => rw [← ofString_nil]; k_asm); (case k3 => assumption); (case k4 => assumption); (case k5 => exact ne_allLt (by assumption)); (case k6 => omega))); intro h' nw7 R7 o7 F' N'))
local macro_rules | `(tactic| walk_at "getMethod ref") => `(tactic| (k_here; k_dflt (refine T.RowIs.gm (by assumption) (fun _ hp => List.mem_cons_of_mem _ hp) (by assumption) ?_)))
local macro_rules | `(tactic| walk_at "compareOp NotEq ref ref") => `(tactic| (k_here; k_dflt (first
  | refine tok_ne (by assumption) (fun _ hp => List.mem_cons_of_mem _ hp) (by assumption) rfl (by first | ktr_units | k_units) ?_
  | refine tok_no (by assumption) (fun _ hp => List.mem_cons_of_mem _ hp) (by assumption) rfl (by first | ktr_units | k_units) ?_)))
local macro_rules | `(tactic| walk_at "subscriptTail Name UnaryOp ref int") => `(tactic| (k_here; k_dflt (refine' tok_last (by assumption) (fun _ hp => List.mem_cons_of_mem _ (List.mem_cons_of_mem _ hp)) (by assumption) (by simp at *; omega) ?_; intro a9 H9)))
local macro_rules | `(tactic| walk_at "setItem ref int") => `(tactic| (k_here; k_dflt (refine' tok_often (by assumption) (by assumption) (fun _ hp => List.mem_cons_of_mem _ hp) (by assumption) (by assumption) ?_); intro h' nw7 R7 o7 F' N'))
theorem tokens_call {w : World} {mean : ExcName → Option Value} {mg mb : Str → Option Value} (l : List Nat) (t : Tok) (fin : List Tok4) (news : List (Addr × Obj)) (hl : l.length ≤ 10000) (hf : tokR false [] l = some fin) :
  ClaimP 2 Challenge.rw_dn0142_04.row.prog w (hd.heap_39 w.params) hd.view_39 (looseW hd.view_39 [Str.ofString "_special_chars_map"]) mean mg mb 47 news [.str (tx l) t] (fun v nw => ∃ D, v = .ref D ∧ T.RowIs D fin news nw) := by
  w_top off
  k_fill
  dsimp only [ClaimP]
  intros
  rename_i hret
  refine wpAny_call ?_
  k_dflt cell_enter
  k_steps
  unfold Stop
  refine iter_tok (by assumption) (.inl ⟨_, rfl⟩) hf rfl (by assumption) (by assumption) rfl ?turn ?done
  case turn =>
    rintro i c u m₁ news₁ h tk I oI hc ⟨v0, held, r, rfl, hR, hrd, hr1⟩ off F' N'
    have hil : i < l.length := by
      rcases Nat.lt_or_ge i l.length with h | h
      · exact h
      · rw [List.getElem?_eq_none h] at hc; cases hc
    cases held
    · cases r with
      | nil =>
        k_steps
        · exact tok_end (by assumption) (by assumption) (fun _ hp => hp) mapRead1 hR off hc hrd (tk_bs (by assumption)) (Nat.le_succ _) hr1
        · exact tok_end (by assumption) (by assumption) (fun _ hp => hp) mapRead2 (by assumption) (by assumption) hc hrd (tk_dot (by assumption)) (Nat.le_refl _) hr1
        · exact (tok_none hc hrd (tk_star0 (by assumption))).elim
        · exact (tok_none hc hrd (tk_star0 (by assumption))).elim
        · exact (tok_none hc hrd (tk_bad (by assumption) (by assumption) (by assumption) (by assumption))).elim
        · exact tok_end (by assumption) (by assumption) (fun _ hp => hp) mapRead2 (by assumption) (by assumption) hc hrd (tk_sign (by assumption) (by assumption) (by assumption) (by assumption)) (Nat.le_refl _) hr1
      | cons k r =>
        k_steps
        · exact tok_end (by assumption) (by assumption) (fun _ hp => hp) mapRead1 hR off hc hrd (tk_bs (by assumption)) (Nat.le_succ _) hr1
        · exact tok_end (by assumption) (by assumption) (fun _ hp => hp) mapRead2 (by assumption) (by assumption) hc hrd (tk_dot (by assumption)) (Nat.le_refl _) hr1
        · exact tok_end (by assumption) (by assumption) (fun _ hp => hp) mapRead2 (by assumption) (by assumption) hc hrd (tk_star (by assumption)) (often_len _) hr1
        · exact (tok_none hc hrd (tk_bad (by assumption) (by assumption) (by assumption) (by assumption))).elim
        · exact tok_end (by assumption) (by assumption) (fun _ hp => hp) mapRead2 (by assumption) (by assumption) hc hrd (tk_sign (by assumption) (by assumption) (by assumption) (by assumption)) (Nat.le_refl _) hr1
    · k_steps
      · exact tok_end (by assumption) (by assumption) (fun _ hp => hp) mapRead1 (by assumption) (by assumption) hc hrd (tk_held (by assumption)) (Nat.le_refl _) hr1
      · exact (tok_none hc hrd (tk_heldno (by assumption))).elim
  case done =>
    rintro m₁ news₁ h tk ⟨v0, held, r, rfl, hR, hrd, hr1⟩ F' N'
    rw [List.drop_length] at hrd
    cases held
    · cases hrd
      k_steps
      exact hret _ _ _ _ ⟨_, rfl, hR⟩ (by assumption) (by assumption)
    · cases hrd
end Mine

end
section
open PySem PySem.W PyProof.Rows PySem.Spec PySem.Calls
namespace Mine
local macro_rules | `(tactic| walk_at "no such key 0") => `(tactic| fail "x")
local macro_rules | `(tactic| walk_at "no such key 1") => `(tactic| fail "x")
local macro_rules | `(tactic| k_all) => `(tactic| first | assumption | exact ne_allLt (by assumption) | exact ne_lt (by assumption))
local macro_rules | `(tactic| walk_at "exec For Name Subscript cons nil") => `(tactic| (k_here; (rename Fr _ _ _ _ => lF'); (with_unfolding_all refine' stop_For lF' ?k1 ?k2 ?_; (case k1 => exact rfl); (case k2 => exact rfl); k_whole)))
theorem len_mem {prog : Program} {w : World} {A : Around} {E : Value → Shared → Prop} {s : Shared} {l : Addr} {ys : List Value} {k : Int} {Q : Value → Shared → Prop} (hl : s.heap.IsList l ys.toArray) (e : (ys.length : Int) = k) (hb : ys.length ≤ 100000) (h : ∀ t tk, Q (.int k t) { s with toks := tk }) : wpAny (model prog w) A (call (.builtin "len") [.ref l]) Q E s := by
  refine PyProof.Rows.len_list hl (by rw [List.size_toArray]; omega) ?_
  rw [List.size_toArray, e]; exact h _ _
local macro_rules | `(tactic| walk_at "call builtin:len") => `(tactic| (k_here; (with_reducible show wpAny _ _ (call (Value.builtin _) [Value.ref _]) _ _ _); refine len_mem (News.isList (by assumption) (by first | assumption | exact List.mem_cons_of_mem _ (by assumption))) (by first | assumption | rfl) (by first | assumption | (simp; done)) ?_; intro _ _))
local macro_rules | `(tactic| walk_at "subscriptTail Name Constant ref int") => `(tactic| (k_here; k_dflt (refine item_listL (News.isList (by assumption) (by first | assumption | exact List.mem_cons_of_mem _ (by assumption))) (by decide) (by decide) (by first | assumption | rfl) ?_)))
local macro_rules | `(tactic| walk_at "subscriptTail Name UnaryOp ref int") => `(tactic| (k_here; k_dflt (refine last_item (News.isList (by assumption) (by first | assumption | exact List.mem_cons_of_mem _ (by assumption))) (by first | assumption | omega) ?_)))
theorem len_tx {prog : Program} {w : World} {A : Around} {E : Value → Shared → Prop} {s : Shared} {t : List Nat} {v : Tok} {Q : Value → Shared → Prop} (hb : t.length ≤ 100000) (h : ∀ u tk, Q (.int ((t.length : Nat) : Int) u) { s with toks := tk }) : wpAny (model prog w) A (call (.builtin "len") [.str (tx t) v]) Q E s := by
  refine PySem.P.len_str (by rw [tx_len]; omega) ?_
  rw [tx_len]; exact h _ _
local macro_rules | `(tactic| walk_at "call builtin:len") => `(tactic| (k_here; (with_reducible show wpAny _ _ (call (Value.builtin _) [Value.str _ _]) _ _ _); refine len_tx (by assumption) ?_; intro _ _))
theorem eq_tx (x t : List Nat) : (tx x == tx t) = (x == t) := by
  rw [Bool.eq_iff_iff, beq_iff_eq, beq_iff_eq]
  exact ⟨fun h => tx_inj h, fun h => by rw [h]⟩
theorem found_one {w : World} {mean : ExcName → Option Value} {mg mb : Str → Option Value} (D : Addr) (t x : List Nat) (u v : Tok) (n : Nat) (news : List (Addr × Obj)) (hD : (D, W.listOf [Value.str (tx t) u].toArray n) ∈ news) :
  Claim 1 Challenge.rw_dn0142_04.row.prog w (hd.heap_39 w.params) hd.view_39 (looseW hd.view_39 [Str.ofString "_special_chars_map"]) mean mg mb 59 news [.ref D, .str (tx x) v] (fun _ => .bool (found x [t])) := by
  have hl1 : (([Value.str (tx t) u].length : Nat) : Int) = 1 := rfl
  w_top off
  k_fill
  dsimp only [Claim]
  intros
  rename_i hret
  refine wpAny_call ?_
  k_dflt cell_enter
  k_steps
  rw [show (tx x == tx t) = found x [t] from eq_tx x t]
  exact hret 0 _ _ (by assumption) (by assumption)
local macro_rules | `(tactic| walk_at "subscriptTail Name Slice ref ref") => `(tactic| (k_here; k_dflt (refine' kmk_slice_lit ?F ?N ?l ?p ?q ?e ?_ ?s ?t ?z; (case F => k_asm); (case N => k_asm); (case l => exact News.isList (by assumption) (by first | assumption | exact List.mem_cons_of_mem _ (by assumption))); (case p => kmk_part); (case q => kmk_part); (case e => exact pick_mid _ _ _); (case s => with_unfolding_all rfl); (case t => kmk_pure); (case z => (rw [sizeLine_eq, List.size_toArray]; omega))); intro D' h' F' N' l1; (try k_lt l1); (try k_sweep)))
theorem starts_yes {x t : List Nat} (h : PySem.Txt.startswith (tx x) (tx t) = true) : hit x t 0 := by rw [starts_hit, decide_eq_true_eq] at h; exact h
theorem ends_yes {x t : List Nat} (h : PySem.Txt.endswith (tx x) (tx t) = true) : hit x t (x.length - t.length) := by rw [ends_hit, decide_eq_true_eq] at h; exact h
theorem found_no1 {x t z : List Nat} {mid : List (List Nat)} (h : PySem.Txt.startswith (tx x) (tx t) = false) : found x (t :: (mid ++ [z])) = false := by
  rw [starts_hit] at h; rw [found_mid, h]; rfl
theorem found_no2 {x t z : List Nat} {mid : List (List Nat)} (h : PySem.Txt.endswith (tx x) (tx z) = false) : found x (t :: (mid ++ [z])) = false := by
  rw [ends_hit] at h; rw [found_mid, h, Bool.and_false]; rfl
theorem found_no3 {x t z : List Nat} {mid : List (List Nat)} (h : greedy x mid t.length = none) : found x (t :: (mid ++ [z])) = false := by
  rw [found_mid, h, Bool.and_false]
theorem found_val {x t z : List Nat} {mid : List (List Nat)} {p : Nat} (h1 : hit x t 0) (h2 : hit x z (x.length - z.length)) (h : greedy x mid t.length = some p) : decide ((p : Int) ≤ (x.length : Int) - (z.length : Int)) = found x (t :: (mid ++ [z])) := by
  rw [found_mid, h, show decide (hit x t 0) = true from decide_eq_true h1, show decide (hit x z (x.length - z.length)) = true from decide_eq_true h2]
  show _ = decide (p + z.length ≤ x.length)
  rw [Bool.eq_iff_iff, decide_eq_true_eq, decide_eq_true_eq]; omega
theorem find_val {prog : Program} {w : World} {A : Around} {E : Value → Shared → Prop} {s : Shared} {x y : PySem.Str} {i k : Int} {t u v : Tok} {Q : Value → Shared → Prop} (e : PySem.Txt.find3 x y i = k) (h : ∀ t' tk, Q (.int k t') { s with toks := tk }) : wpAny (model prog w) A (call (.builtin "str.find") [.str x t, .str y u, .int i v]) Q E s := by
  subst e
  exact SC.find3 (h _ _)
local macro_rules | `(tactic| walk_at "call builtin:str.find") => `(tactic| (k_here; refine find_val (by assumption) ?_; intro _ _))
theorem found_many {w : World} {mean : ExcName → Option Value} {mg mb : Str → Option Value} (D : Addr) (t z x : List Nat) (mid : List (List Nat)) (ms : List Value) (u uz v : Tok) (n : Nat) (news : List (Addr × Obj)) (hD : (D, W.listOf ((Value.str (tx t) u :: ms) ++ [Value.str (tx z) uz]).toArray n) ∈ news) (hm : StrsAre ms (mid.map tx)) (hml : mid.length ≤ 1000) (hxl : x.length ≤ 100000) (hzl : z.length ≤ 100000) (htl : t.length ≤ 100000) (hmi : ∀ m ∈ mid, m.length ≤ 100000) :
  Claim 1 Challenge.rw_dn0142_04.row.prog w (hd.heap_39 w.params) hd.view_39 (looseW hd.view_39 [Str.ofString "_special_chars_map"]) mean mg mb 59 news [.ref D, .str (tx x) v] (fun _ => .bool (found x (t :: (mid ++ [z])))) := by
  have hlen : ms.length = mid.length := by have := hm.length; rw [List.length_map] at this; exact this
  have hl1 : ((((Value.str (tx t) u :: ms) ++ [Value.str (tx z) uz]).length : Nat) : Int) = (mid.length : Int) + 2 := by simp; omega
  have hl2 : ((Value.str (tx t) u :: ms) ++ [Value.str (tx z) uz]).length ≤ 100000 := by simp; omega
  have hl3 : (Value.str (tx t) u :: ms).length ≤ 1000000 := by simp; omega
  w_top off
  k_fill
  dsimp only [Claim]
  intros
  rename_i hret
  refine wpAny_call ?_
  k_dflt cell_enter
  k_steps
  · exfalso; omega
  · unfold Stop
    have hst : hit x t 0 := starts_yes (by assumption)
    have hen : hit x z (x.length - z.length) := ends_yes (by assumption)
    have htx : t.length ≤ x.length := by have := (hit_iff.mp hst).1; omega
    refine iter_own (InvFound x t.length mid) rfl (by assumption) (by assumption) (News.isList (by assumption) (.head _)) (found_start rfl htx) ?turn ?done
    case turn =>
      intro i v9 m₁ news₁ h tk I oI hi hJ off F N
      obtain ⟨e1, v0, p, tt, e2, hg, hp⟩ := hJ
      subst e1
      subst e2
      obtain ⟨o, uo, e3, ho⟩ := strs_at hm hi
      subst e3
      have hol : o.length ≤ 100000 := hmi o (List.mem_of_getElem? ho)
      have hfv := find_first x o p
      cases hf : first4 x o p with
      | none =>
        rw [hf] at hfv
        dsimp only at hfv
        k_steps
        dsimp only
        refine TPost.ret ?_
        dsimp only
        k_steps
        rw [show false = found x (t :: (mid ++ [z])) from (found_no3 (greedy_none hg ho hf)).symm]
        exact hret 0 _ _ (by assumption) (Mine.News.tl (Mine.News.tl (by assumption)))
      | some j =>
        rw [hf] at hfv
        dsimp only at hfv
        k_steps
        · have hj0 := Int.natCast_nonneg j
          exfalso; omega
        · refine found_end (by assumption) (by assumption) (fun _ hp => hp) off hg ho hf ?_
          omega
    case done =>
      intro m₁ news₁ h tk hJ F N
      obtain ⟨e1, v0, p, tt, e2, hg, hp⟩ := hJ
      subst e1
      subst e2
      rw [hlen, List.take_length] at hg
      k_steps
      rw [found_val hst hen hg]
      exact hret 0 _ _ (by assumption) (by assumption)
  · rw [show false = found x (t :: (mid ++ [z])) from (found_no2 (by assumption)).symm]
    exact hret 0 _ _ (by assumption) (by assumption)
  · rw [show false = found x (t :: (mid ++ [z])) from (found_no1 (by assumption)).symm]
    exact hret 0 _ _ (by assumption) (by assumption)
end Mine

end
section
open PySem PySem.W PyProof.Rows PySem.Spec PySem.Calls
namespace Mine
local macro_rules | `(tactic| k_all) => `(tactic| first | assumption | exact ne_allLt (by assumption) | exact ne_lt (by assumption))
theorem stop_open {P : Prop} (h : P) : Stop P := h
theorem len_txf {prog : Program} {w : World} {A : Around} {E : Value → Shared → Prop} {s : Shared} {t : List Nat} {v : Tok} {Q : Value → Shared → Prop} (hb : t.length ≤ 1000) (h : ∀ u tk, Q (.int ((t.length : Nat) : Int) u) { s with toks := tk }) : wpAny (model prog w) A (call (.builtin "len") [.str (tx t) v]) Q E s := by
  refine PySem.P.len_str (by rw [tx_len]; omega) ?_
  rw [tx_len]; exact h _ _
local macro_rules | `(tactic| walk_at "call builtin:len") => `(tactic| (k_here; (with_reducible show wpAny _ _ (call (Value.builtin _) [Value.str _ _]) _ _ _); refine len_txf (by assumption) ?_; intro _ _))
local macro_rules | `(tactic| walk_at "exec For Tuple Name cons nil") => `(tactic| (k_here; (rename Fr _ _ _ _ => lF'); (with_unfolding_all refine' stop_ForT lF' ?_; k_whole)))
local macro_rules | `(tactic| walk_at "exec For Name Call cons nil") => `(tactic| (k_here; (rename Fr _ _ _ _ => lF'); (with_unfolding_all refine' stop_For lF' ?k1 ?k2 ?_; (case k1 => exact rfl); (case k2 => exact rfl); k_whole)))
local macro_rules | `(tactic| walk_at "exec Assign cons ListComp") => `(tactic| (k_here; k_dflt (refine P.assign_stopM (by k_asm) (by rfl) (by with_unfolding_all rfl) (by with_unfolding_all rfl) (by decide) (by rfl) (by decide) (by rfl) (by rfl) ?_)))
theorem any_mem (k : Nat) : ∀ ps : List Nat, ((natI ps).any fun y => y == (k : Int)) = decide (k ∈ ps)
  | [] => rfl
  | p :: ps => by
    rw [natI, List.map_cons, List.any_cons]
    have := any_mem k ps
    rw [natI] at this
    rw [this, Bool.eq_iff_iff, Bool.or_eq_true, beq_iff_eq, decide_eq_true_eq, decide_eq_true_eq, List.mem_cons]
    have e : Int.ofNat p = (k : Int) ↔ k = p := by
      show ((p : Nat) : Int) = (k : Int) ↔ _
      omega
    rw [e]
theorem fits_any {x : List Nat} {ks : List Tok4} : ((natI (ks.foldl (step4 x) [0])).any fun y => y == (x.length : Int)) = fits x ks := any_mem _ _
local macro_rules | `(tactic| walk_at "compareOp In int ref") => `(tactic| (k_here; k_dflt (refine' in_ints ?l ?i ?k ?e ?_; (case l => exact News.isList (by assumption) (by k_mem)); (case i => assumption); (case e => assumption); (case k => omega))))
local macro_rules | `(tactic| walk_at "compareOp In str ref") => `(tactic| (k_here; k_dflt (refine' in_two ?n ?e ?_; (case n => assumption); (case e => assumption))))
local macro_rules | `(tactic| walk_at "compareOp Eq ref ref") => `(tactic| (k_here; k_dflt (refine' eq_last ?n ?i ?k ?e ?u ?_; (case n => assumption); (case i => assumption); (case e => assumption); (case k => omega); (case u => first | ktr_units | k_units))))
local macro_rules | `(tactic| walk_at "subscriptTail Name Name str int") => `(tactic| (k_here; k_dflt (refine str_at rfl (by omega) (by omega) (by omega) ?_)))
local macro_rules | `(tactic| walk_at "subscriptTail Name BinOp str int") => `(tactic| (k_here; k_dflt (refine str_at rfl (by omega) (by omega) (by omega) ?_)))
local macro_rules | `(tactic| walk_at "call builtin:list.append") => `(tactic| (k_here; (with_reducible show wpAny _ _ (call (Value.builtin _) [Value.ref _, _]) _ _ _); k_dflt (refine' append_K ?k1 ?k2 ?k3 ?_ ?z; (case k1 => k_asm); (case k2 => k_asm); (case k3 => k_upd); (case z => (rw [sizeLine_eq, List.size_toArray]; omega)); k_whole); intro h' F' N'))
theorem oft_c1 {x sg ps acc : List Nat} {j : Nat} (h : decide (j ∈ ps) = true) : oftC x sg ps acc j = true := by unfold oftC; rw [h]; rfl
theorem oft_c0 {x sg ps acc : List Nat} {j : Nat} (h : decide (j ∈ ps) = false) (h2 : decide (acc.getLast? = some (j - 1) ∧ 1 ≤ j) = false) : oftC x sg ps acc j = false := by unfold oftC; rw [h, h2]; rfl
theorem oft_c2 {x sg ps acc : List Nat} {j : Nat} {b : Bool} (h : decide (j ∈ ps) = false) (h2 : decide (acc.getLast? = some (j - 1) ∧ 1 ≤ j) = true) (h3 : (sg == [] || sg == [x.getD (0 + (j : Int) - 1).toNat 0]) = b) : oftC x sg ps acc j = b := by
  have e : (0 + (j : Int) - 1).toNat = j - 1 := by omega
  rw [e] at h3
  unfold oftC; rw [h, h2, h3]; simp
theorem sub_oft {α : Type} {a b c d : α} {l : List α} : ∀ p ∈ a :: b :: c :: l, p ∈ c :: a :: b :: d :: l := by
  intro p hp
  rcases List.mem_cons.mp hp with rfl | hp
  · exact .tail _ (.head _)
  · rcases List.mem_cons.mp hp with rfl | hp
    · exact .tail _ (.tail _ (.head _))
    · rcases List.mem_cons.mp hp with rfl | hp
      · exact .head _
      · exact .tail _ (.tail _ (.tail _ (.tail _ hp)))
theorem sub_one {α : Type} {a b c d e : α} {l : List α} : ∀ p ∈ a :: b :: c :: l, p ∈ c :: d :: a :: b :: e :: l := by
  intro p hp
  rcases List.mem_cons.mp hp with rfl | hp
  · exact .tail _ (.tail _ (.head _))
  · rcases List.mem_cons.mp hp with rfl | hp
    · exact .tail _ (.tail _ (.tail _ (.head _)))
    · rcases List.mem_cons.mp hp with rfl | hp
      · exact .head _
      · exact .tail _ (.tail _ (.tail _ (.tail _ (.tail _ hp))))
theorem ok_at {x sg : List Nat} {p : Nat} {b : Bool} (h : p < x.length) (h4 : (sg == [] || sg == [x.getD (p : Int).toNat 0]) = b) : okAt x sg p = b := by
  rw [Int.toNat_natCast] at h4
  unfold okAt; rw [h4]; simp [h]
theorem ok_no {x sg : List Nat} {p : Nat} (h : ¬ p < x.length) : okAt x sg p = false := by
  unfold okAt; simp [h]
theorem fits_call {w : World} {mean : ExcName → Option Value} {mg mb : Str → Option Value} (D : Addr) (r : List Tok4) (restR nwR : List (Addr × Obj)) (x : List Nat) (t : Tok) (news : List (Addr × Obj)) (hR : T.RowIs D r restR nwR) (hsub : ∀ p ∈ nwR, p ∈ news) (hxl : x.length ≤ 1000) :
  Claim 1 Challenge.rw_dn0142_04.row.prog w (hd.heap_39 w.params) hd.view_39 (looseW hd.view_39 [Str.ofString "_special_chars_map"]) mean mg mb 52 news [.ref D, .str (tx x) t] (fun _ => .bool (fits x r.reverse)) := by
  w_top off
  k_fill
  dsimp only [Claim]
  intros
  rename_i hret
  refine wpAny_call ?_
  k_dflt (refine' code_defC ?k1 ?k2 ?k3 ?k4 ?k5 ?kA ?kF ?kK ?k6 ?k7 ?k8 ?k9 ?kB ?kD ?_ ?c2 ?c3 ?c4; (case kA => exact rfl); (case kF => exact rfl); (case kK => assumption); (case k1 => k_asm); (case k2 => k_asm); (case k3 => k_asm); (case k4 => k_asm); (case k5 => k_asm); (case k6 => k_is); (case k7 => k_is); (case k8 => ktr_room); (case k9 => exact BindsTo.of_eq rfl); (case kB => exact rfl); (case kD => decide +kernel); (case c2 => exact rfl); (case c3 => exact rfl); (case c4 => exact rfl); k_whole; intro g' L' h' tk' cells' FG' F' N' Y' B' X' T' l1)
  have hl9 := l1
  k_dflt ((try k_lt l1); k_cells Y'; (try simp only [List.cons_append, List.nil_append] at N'); (try dsimp only); (try k_lift B'); (try k_fold))
  rename_i o1 o2 d1 d2
  have hcs : ∀ p ∈ (L' + 1, o2) :: news, p.1 ≠ L' + 1 + 1 := List.forall_mem_cons.mpr ⟨by show L' + 1 ≠ L' + 1 + 1; exact Nat.ne_of_lt (Nat.lt_succ_self _), fun p hp => Nat.ne_of_lt (Nat.lt_of_lt_of_le (hl9 p hp) (by exact Nat.le_add_right _ 2))⟩
  k_steps
  refine stop_open ?_
  refine iter_fits (x := x) hR (fun p hp => List.mem_cons_of_mem _ (hsub p hp)) d1 ?hP hcs rfl rfl (by assumption) (by assumption) rfl rfl rfl rfl rfl ?turn ?done
  case turn =>
    intro i sg o u v1 v2 v3 P vs n oc' s₁ h tk I oI hk hi hPc hPI hcI hrI hoc F N
    have hpsl := places_len x (r.reverse.take i) [0] (by simp)
    generalize hps : (r.reverse.take i).foldl (step4 x) [0] = ps at *
    cases o with
    | true =>
      k_steps
      refine stop_open ?_
      refine iter_oft (sg := sg) (ps := ps) rfl (by assumption) hxl (by assumption) (by assumption) ?turn2 ?done2
      case turn2 =>
        intro j t' v0 avs n' acc h tk I2 oI2 hj hacc haccl hai hRI2 hbI2 F N
        have hRs : (@Ne Nat I2 P) := fun e => hbI2 (P, W.listOf vs.toArray n) (.tail _ (.tail _ (.head _))) e.symm
        cases h1 : decide (j ∈ ps) with
        | true =>
          k_steps
          exact in_end (by assumption) (by assumption) (fun _ hp => hp) (List.forall_mem_cons.mpr ⟨hRI2, hbI2⟩) (by rw [List.concat_eq_append]; exact oft_yes hacc hai (oft_c1 h1))
        | false =>
          cases h2 : decide (acc.getLast? = some (j - 1) ∧ 1 ≤ j) with
          | true =>
            have hj1 : 1 ≤ j := (of_decide_eq_true h2).2
            cases h3 : (sg == [] || sg == [x.getD (0 + (j : Int) - 1).toNat 0]) with
            | true =>
              k_steps
              exact in_end (by assumption) (by assumption) (fun _ hp => .tail _ (.tail _ (.tail _ hp))) (List.forall_mem_cons.mpr ⟨hRI2, hbI2⟩) (by rw [List.concat_eq_append]; exact oft_yes hacc hai (oft_c2 h1 h2 h3))
            | false =>
              k_steps
              exact in_end (by assumption) (by assumption) (fun _ hp => .tail _ (.tail _ (.tail _ hp))) (List.forall_mem_cons.mpr ⟨hRI2, hbI2⟩) (oft_no hacc hai (oft_c2 h1 h2 h3))
          | false =>
            k_steps
            exact in_end (by assumption) (by assumption) (fun _ hp => .tail _ (.tail _ hp)) (List.forall_mem_cons.mpr ⟨hRI2, hbI2⟩) (oft_no hacc hai (oft_c0 h1 h2))
      case done2 =>
        intro v0 avs n' h tk hai F N
        k_steps
        refine fits_end (by assumption) mapFt1 (by assumption) sub_oft hoc ?a1 ?a2 hcI hcs hrI hk (by rw [hps]; exact hai)
        case a1 => k_ne
        case a2 => k_ne
    | false =>
      k_steps
      refine stop_open ?_
      refine comp_one (x := x) (sg := sg) (by with_unfolding_all rfl) (by with_unfolding_all rfl) rfl (by assumption) (by assumption) (by k_mem) hi (by rw [sizeLine_eq]; omega) ?turn3 ?fin3
      case turn3 =>
        intro p u' I2 oI2 C oC Dd m₂ ys s₂ h tk E' hp hC hma F N off ne
        refine tests_one ?_
        by_cases hpx : p < x.length
        · cases h4 : (sg == [] || sg == [x.getD (p : Int).toNat 0]) with
          | true =>
            k_steps
            exact GEnd.mk' (by assumption) (by assumption) (fun _ hp => .tail _ hp) off hC ⟨rfl, ok_at hpx h4, _, rfl⟩
          | false =>
            k_steps
            exact GEnd.mk' (by assumption) (by assumption) (fun _ hp => .tail _ hp) off hC ⟨rfl, ok_at hpx h4⟩
        · k_steps
          exact GEnd.mk' (by assumption) (by assumption) (fun _ hp => hp) off hC ⟨rfl, ok_no hpx⟩
      case fin3 =>
        intro R ys h tk hy F N off
        have o9 := off1_mem off
        k_steps
        exact fits_end (by assumption) mapFt2 (by assumption) sub_one hoc (Ne.symm (o9 _ (.tail _ (.tail _ (.head _))))) (Ne.symm (o9 _ (.tail _ (.head _)))) hcI hcs hrI hk (by rw [hps]; exact hy)
  case done =>
    intro v1 v2 v3 P vs n oc' h tk hi F N
    k_steps
    rw [fits_any]
    exact hret 0 _ _ (by assumption) (News.sub (by assumption) (fun _ hp => .tail _ (.tail _ (.tail _ hp))))
  case hP => k_ne
end Mine

end
section
open PySem PySem.W PyProof.Rows PySem.Spec PySem.Calls
namespace Mine
theorem stop_any {P : Prop} (h : Stop P) : P := h
local macro_rules | `(tactic| k_all) => `(tactic| first | assumption | exact ne_allLt (by assumption) | exact ne_lt (by assumption))
theorem escape_tx {w : World} {mean : ExcName → Option Value} {mg mb : Str → Option Value} (l : List Nat) (t : Tok) (news : List (Addr × Obj)) (hx : l.length ≤ 100000) :
  Claim 1 Challenge.rw_dn0142_04.row.prog w (hd.heap_39 w.params) hd.view_39 (looseW hd.view_39 [Str.ofString "_special_chars_map"]) mean mg mb 26 news [.str (tx l) t] (fun t' => .str (tx (esc l)) t') :=
  escape_str (tx l) t news (by rw [sizeLine_eq]; simp; omega)
theorem found_call {w : World} {mean : ExcName → Option Value} {mg mb : Str → Option Value} (D : Addr) (x : List Nat) (ts : List (List Nat)) (vs : List Value) (v : Tok) (n : Nat) (b : Bool) (news : List (Addr × Obj)) (hD : (D, W.listOf vs.toArray n) ∈ news) (hs : StrsAre vs (ts.map tx)) (hne : ts ≠ []) (hl : ts.length ≤ 1000) (hm : ∀ t ∈ ts, t.length ≤ 100000) (hx : x.length ≤ 1000) (hb : found x ts = b) :
  Claim 1 Challenge.rw_dn0142_04.row.prog w (hd.heap_39 w.params) hd.view_39 (looseW hd.view_39 [Str.ofString "_special_chars_map"]) mean mg mb 59 news [.ref D, .str (tx x) v] (fun _ => .bool b) := by
  subst hb
  match ts, hne, hs, hl, hm with
  | [t], _, hs, hl, hm =>
    cases hs with
    | cons _ u r => cases r; exact found_one D t x u v n news hD
  | t :: u :: r, _, hs, hl, hm =>
    have e : u :: r = (u :: r).dropLast ++ [(u :: r).getLast (by simp)] := (List.dropLast_concat_getLast (by simp)).symm
    generalize (u :: r).dropLast = mid at e
    generalize (u :: r).getLast (by simp) = z at e
    rw [e] at hs hl hm ⊢
    obtain ⟨u1, ms, uz, rfl, hms⟩ := strs_ends hs
    refine found_many D t z x mid ms u1 uz v n news hD hms ?_ (by omega) ?_ ?_ ?_
    · simp at hl; omega
    · exact hm z (by simp)
    · exact hm t (by simp)
    · intro m hmm; exact hm m (by simp [hmm])
theorem fits_use {w : World} {mean : ExcName → Option Value} {mg mb : Str → Option Value} (D : Addr) (x : List Nat) (ts : List (List Nat)) (restR nwR : List (Addr × Obj)) (t : Tok) (b : Bool) (news : List (Addr × Obj)) (hR : T.RowIs D (pat ts).reverse restR nwR) (hsub : ∀ p ∈ nwR, p ∈ news) (hne : ts ≠ []) (hx : x.length ≤ 1000) (hb : found x ts = b) :
  Claim 1 Challenge.rw_dn0142_04.row.prog w (hd.heap_39 w.params) hd.view_39 (looseW hd.view_39 [Str.ofString "_special_chars_map"]) mean mg mb 52 news [.ref D, .str (tx x) t] (fun _ => .bool b) := by
  have := fits_call (w := w) (mean := mean) (mg := mg) (mb := mb) D (pat ts).reverse restR nwR x t news hR hsub hx
  rw [List.reverse_reverse, fits_found x ts hne, hb] at this
  exact this
local macro_rules | `(tactic| walk_at "eval ListComp") => `(tactic| (k_here; k_dflt (refine comp_stop (by k_asm) (by with_unfolding_all rfl) (by decide) (by rfl) (by decide) (by rfl) ?_)))
local macro_rules | `(tactic| walk_at "call ref") => `(tactic| (k_here; (with_reducible show wpAny _ _ (call (Value.ref 40) [Value.ref _]) _ _ _); refine stop_any ?_))
local macro_rules | `(tactic| walk_at "call ref") => `(tactic| (k_here; (with_reducible show wpAny _ _ (call (Value.ref 26) [Value.str _ _]) _ _ _); k_dflt (refine' claim_use (escape_tx _ _ _ (by first | assumption | omega)) ?k1 ?k2 ?k3 ?k4 ?k5 ?k6 ?k7 ?k8 ?_; (case k1 => k_asm); (case k2 => k_asm); (case k3 => k_asm); (case k4 => k_asm); (case k5 => k_asm); (case k6 => first | exact rfl | assumption); (case k7 => first | ktr_room | k_room); (case k8 => first | ktr_units | k_units)); intro t9 h9 tk9 F9 N9; (try dsimp only); (try k_fold)))
local macro_rules | `(tactic| walk_at "call ref") => `(tactic| (k_here; (with_reducible show wpAny _ _ (call (Value.ref 47) [Value.str _ _]) _ _ _); refine stop_any ?_))
local macro_rules | `(tactic| walk_at "exec For Name List cons nil") => `(tactic| (k_here; (rename Fr _ _ _ _ => lF'); (with_unfolding_all refine' stop_For lF' ?k1 ?k2 ?_; (case k1 => exact rfl); (case k2 => exact rfl); k_whole)))
local macro_rules | `(tactic| walk_at "call builtin:str.join") => `(tactic| (k_here; refine stop_any ?_))
theorem esc_strs {ts : List (List Nat)} : ∀ {ys : List Value}, All2 (fun (k : PySem.Str) y => ∃ t, y = .str (tx (esc k.cps.toList)) t) (ts.map tx) ys → StrsAre ys ((ts.map esc).map tx) := by
  induction ts with
  | nil => intro ys h; cases h; exact .nil
  | cons p r ih =>
    intro ys h
    cases h with
    | cons h1 h2 => obtain ⟨t, rfl⟩ := h1; exact .cons _ t (ih h2)
theorem join_glue {prog : Program} {w : World} {A : Around} {E : Value → Shared → Prop} {s : Shared} {Q : Value → Shared → Prop} {D : Addr} {ys : List Value} {x : PySem.Str} {t : Tok} {n : List Nat} {ls : List (List Nat)} (hx : x = tx n) (hl : s.heap.IsList D ys.toArray) (hi : StrsAre ys (ls.map tx)) (hok : (ls.map (·.length)).sum + ls.length * n.length ≤ 16777216)
    (h : ∀ t' k, Q (.str (tx (glue n ls)) t') { s with toks := k }) : wpAny (model prog w) A (call (.builtin "str.join") [.str x t, .ref D]) Q E s := by
  subst hx
  refine join_list hl hi ?_ fun t' k => ?_
  · rw [List.map_map]
    have : (ls.map ((·.length) ∘ tx)) = ls.map (·.length) := by
      apply List.map_congr_left; intro l _; exact tx_len l
    rw [this, tx_len, List.length_map]
    exact hok
  · rw [join_tx]
    exact h t' k
theorem of_any : PySem.Str.ofString ".*" = tx [46, 42] := by decide +kernel
theorem of_sa : PySem.Str.ofString "*a" = tx [42, 97] := by decide +kernel
theorem esc_sumT (ts : List (List Nat)) : ((ts.map esc).map (·.length)).sum ≤ 2 * sumT ts := by
  induction ts with
  | nil => simp [sumT]
  | cons t ts ih =>
    have := esc_len t
    rw [sumT_cons]
    simp only [List.map_cons, List.sum_cons]
    omega
theorem glue_lenT (n : List Nat) : ∀ ls : List (List Nat), (glue n ls).length ≤ sumT ls + ls.length * n.length
  | [] => by simp [glue, sumT]
  | [x] => by simp [glue, sumT]
  | x :: y :: r => by
    have := glue_lenT n (y :: r)
    show (x ++ n ++ glue n (y :: r)).length ≤ _
    rw [sumT_cons]
    simp only [List.length_append, List.length_cons, Nat.succ_mul] at this ⊢
    omega
theorem sumT_rev (ts : List (List Nat)) : sumT ts.reverse = sumT ts := by
  induction ts with
  | nil => rfl
  | cons t ts ih => rw [List.reverse_cons, sumT_cons, ← ih]; simp [sumT]; omega
theorem memT {ts : List (List Nat)} {t : List Nat} (h : t ∈ ts) : t.length ≤ sumT ts := by
  induction ts with
  | nil => cases h
  | cons u ts ih =>
    rw [sumT_cons]
    rcases List.mem_cons.mp h with rfl | h
    · omega
    · have := ih h; omega
theorem strs_rev : ∀ {vs : List Value} {ys : List PySem.Str}, StrsAre vs ys → StrsAre vs.reverse ys.reverse
  | _, _, .nil => .nil
  | _, _, .cons y t r => by rw [List.reverse_cons, List.reverse_cons]; exact strs_snoc2 (strs_rev r)
theorem of_a : PySem.Str.ofString "a" = tx [97] := by decide +kernel
theorem mul_a {prog : Program} {w : World} {A : Around} {E : Value → Shared → Prop} {s : Shared} {Q : Value → Shared → Prop} {n : Nat} {t u : Tok} (hn : n ≤ 1000) (h : ∀ t' k, Q (.str (tx (List.replicate n 97)) t') { s with toks := k }) :
    wpAny (model prog w) A (binaryOp .Mult (.str (PySem.Str.ofString "a") t) (.int (n : Int) u)) Q E s := by
  rw [of_a]
  refine SB.mul (mulOk_of 1 1000000 (by decide) (by omega) (by omega) (by decide) (by decide)) fun t' k => ?_
  rw [mul_tx]
  exact h t' k
local macro_rules | `(tactic| walk_at "binaryOp Mult str int") => `(tactic| (k_here; refine mul_a (by assumption) ?_; intro _ _))
local macro_rules | `(tactic| walk_at "call builtin:len") => `(tactic| (k_here; (with_reducible show wpAny _ _ (call (Value.builtin _) [Value.str _ _]) _ _ _); refine len_txf (by assumption) ?_; intro _ _))
local macro_rules | `(tactic| walk_at "subscriptTail Name Slice ref ref") => `(tactic| (k_here; k_dflt (refine' krv_lit (zs := List.reverse _) ?F ?N ?l ?p rfl ?_ ?s ?t ?z; (case F => k_asm); (case N => k_asm); (case l => exact News.isList (by assumption) (by assumption)); (case p => kmk_part); (case s => with_unfolding_all rfl); (case t => kmk_pure); (case z => (rw [sizeLine_eq, List.size_toArray]; omega))); intro D' h' F' N' l1))
local macro_rules | `(tactic| walk_at "call ref") => `(tactic| (k_here; (with_reducible show wpAny _ _ (call (Value.ref 52) [Value.ref _, Value.str _ _]) _ _ _); k_dflt (refine' claim_use (fits_use _ _ _ _ _ _ _ _ ?ka ?kb ?kc ?kd ?ke) ?k1 ?k2 ?k3 ?k4 ?k5 ?k6 ?k7 ?k8 ?_; (case ka => assumption); (case ke => assumption); (case kc => assumption); (case kd => assumption); (case k1 => k_asm); (case k2 => k_asm); (case k3 => k_asm); (case k4 => k_asm); (case kb => exact fun _ hp => List.mem_cons_of_mem _ (List.mem_cons_of_mem _ (List.mem_cons_of_mem _ hp))); (case k5 => k_asm); (case k6 => first | exact rfl | assumption); (case k7 => first | ktr_room | k_room); (case k8 => first | ktr_units | k_units)); intro t9 h9 tk9 F9 N9; (try dsimp only); (try k_fold)))
local macro_rules | `(tactic| walk_at "call ref") => `(tactic| (k_here; (with_reducible show wpAny _ _ (call (Value.ref 59) [Value.ref _, Value.str _ _]) _ _ _); k_dflt (refine' claim_use (found_call _ _ _ _ _ _ _ _ ?ka ?kb ?kc ?kd ?ke ?kf ?kg) ?k1 ?k2 ?k3 ?k4 ?k5 ?k6 ?k7 ?k8 ?_; (case k1 => k_asm); (case k2 => k_asm); (case k3 => k_asm); (case k4 => k_asm); (case ka => exact List.mem_cons_of_mem _ (List.mem_cons_of_mem _ (List.mem_cons_of_mem _ (by assumption)))); (case kb => assumption); (case kc => assumption); (case kd => assumption); (case ke => assumption); (case kf => assumption); (case kg => assumption); (case k5 => k_asm); (case k6 => first | exact rfl | assumption); (case k7 => first | ktr_room | k_room); (case k8 => first | ktr_units | k_units)); intro t9 h9 tk9 F9 N9; (try dsimp only); (try k_fold)))
def InvText : Inv := fun m₀ nw₀ _ m nw => nw = nw₀ ∧ ∃ v0, m = fun y => if y = Str.ofString "text" then v0 else m₀ y
theorem text_end {h₀ h' : Heap} {L I ax : Addr} {oI oA : Obj} {nw : List (Addr × Obj)} {m₀ : Str → Option Value} {v0 v1 : Option Value} {i : Nat} {s₁ : Shared} {tk : Nat} {Q : Flow → Shared → Prop}
    (F : Fr h₀ L h' (fun z => if z = Str.ofString "text" then v1 else (fun y => if y = Str.ofString "text" then v0 else m₀ y) z)) (N : News h₀ L h' ((I, oI) :: (ax, oA) :: nw)) (off : ∀ p ∈ (ax, oA) :: nw, p.1 ≠ I) :
    TPost h₀ L (fun m nw' => ∃ nw'', nw' = (ax, oA) :: nw'' ∧ InvText m₀ nw (i + 1) m nw'') I oI s₁ Q .next { s₁ with heap := h', toks := tk } := by
  rw [map_over] at F
  exact TPost.next (TEnd.mk' F N (fun p hp => hp) off ⟨nw, rfl, rfl, v1, rfl⟩)
theorem five {ts : List (List Nat)} {t1 t2 t3 t4 t5 : Tok} {y : PySem.Str} (hs : sumT ts ≤ 21) (hl : ts.length ≤ 21) (hy : y.length ≤ (tx (glue [] ts)).length) {v : Value} (h : v ∈ [Value.str (tx (glue [] ts)) t1, .str (tx (glue [42, 97] ts)) t2, .str (tx (glue [] ts.reverse)) t3, .str (tx (List.replicate (glue [] ts).length 97)) t4, .str y t5]) :
    ∃ x t, v = .str (tx x) t ∧ x.length ≤ 1000 := by
  have g0 := glue_lenT [] ts
  have g1 := glue_lenT [42, 97] ts
  have g2 := glue_lenT [] ts.reverse
  rw [sumT_rev, List.length_reverse] at g2
  simp only [List.length_nil, List.length_cons] at g0 g1 g2
  simp only [List.mem_cons, List.not_mem_nil, or_false] at h
  rcases h with rfl | rfl | rfl | rfl | rfl
  · exact ⟨_, _, rfl, by omega⟩
  · exact ⟨_, _, rfl, by omega⟩
  · exact ⟨_, _, rfl, by omega⟩
  · exact ⟨_, _, rfl, by rw [List.length_replicate]; omega⟩
  · refine ⟨y.cps.toList, t5, by rw [← tx_cps], ?_⟩
    have hy' : y.cps.toList.length ≤ (glue [] ts).length := by simpa [PySem.Str.length] using hy
    omega
theorem law04 : PySem.Challenge.rw_dn0142_04.Holds := hd (by
  w_strict (
    k_go0
    rename List Int => ns
    have hns : (List.take 20 ns).length ≤ 20 := by simp; omega
    obtain ⟨hf1, hf2, hf3⟩ := texts_facts (List.take 20 ns)
    k_steps
    refine stop_open ?_
    k_dflt (refine' claimP_use (texts_call _ _ _ _ _ (by assumption) (by assumption) (.head _)) ?k1 ?k2 ?k3 ?k4 (fun _ hp => hp) ?k5 ?k6 ?k7 ?k8 ?_; (case k1 => k_asm); (case k2 => k_asm); (case k3 => k_asm); (case k4 => k_asm); (case k5 => k_asm); (case k6 => first | exact rfl | assumption); (case k7 => first | ktr_room | k_room); (case k8 => first | ktr_units | k_units))
    intro v9 h9 tk9 nw9 P9 F9 N9
    obtain ⟨D9, vs9, n9, e9, e8, S9, L9⟩ := P9
    subst e9
    subst e8
    (try dsimp only)
    (try k_fold)
    generalize hts : (textsV (List.take 20 ns)).reverse = ts at S9
    have hne : ts ≠ [] := by rw [← hts]; simpa using hf1
    have hsl : sumT ts ≤ 21 := by rw [← hts, sumT_rev]; omega
    have htl : ts.length ≤ 21 := by rw [← hts, List.length_reverse]; omega
    have hvl : vs9.length ≤ 21 := by rw [S9.length, List.length_map]; exact htl
    have hes := esc_sumT ts
    k_steps
    refine stop_open ?_
    refine comp_strs (R := fun k y => ∃ t, y = .str (tx (esc k.cps.toList)) t) rfl (by assumption) (by assumption) (.inr ⟨_, .head _, rfl, _, rfl⟩) S9 (by rw [sizeLine_eq, List.length_map]; omega) ?turn1 ?fin1
    case turn1 =>
      intro k v I oI C oC D m₂ ys h tk E' hk hv hC hx F N off ne
      obtain ⟨p, hp, e4⟩ := List.mem_map.mp hk
      subst e4
      have hpl := memT hp
      have hpl' : p.length ≤ 100000 := by omega
      obtain ⟨u, e5⟩ := hv
      subst e5
      k_steps
      exact CEnd.mk' (by assumption) (by assumption) (fun p hp => hp) ⟨_, rfl⟩
    case fin1 =>
      intro ys D h tk hy F N off
      have hys := esc_strs hy
      k_steps
      refine stop_open ?_
      refine join_glue of_any (News.isList (by assumption) (.head _)) hys (by rw [List.length_map]; simp only [List.length_cons, List.length_nil]; omega) ?_
      intro t6 k6
      have hgl : (glue [46, 42] (ts.map esc)).length ≤ 10000 := by
        have := glue_lenT [46, 42] (ts.map esc)
        have h2 : sumT (ts.map esc) ≤ 2 * sumT ts := hes
        rw [List.length_map] at this
        simp only [List.length_cons, List.length_nil] at this
        omega
      have htok : tokR false [] (glue [46, 42] (ts.map esc)) = some (pat ts).reverse := by
        rw [tokR_pat, List.append_nil]
      k_steps
      refine stop_open ?_
      k_dflt (refine' claimP_use (tokens_call _ _ _ _ hgl htok) ?k1 ?k2 ?k3 ?k4 (fun _ hp => hp) ?k5 ?k6 ?k7 ?k8 ?_; (case k1 => k_asm); (case k2 => k_asm); (case k3 => k_asm); (case k4 => k_asm); (case k5 => k_asm); (case k6 => first | exact rfl | assumption); (case k7 => first | ktr_room | k_room); (case k8 => first | ktr_units | k_units))
      intro v8 h8 tk8 nw8 P8 F8 N8
      obtain ⟨Dt, e7, Rt⟩ := P8
      subst e7
      (try dsimp only)
      (try k_fold)
      have hDm : (D9, W.listOf vs9.toArray n9) ∈ nw8 := Rt.rest _ (.tail _ (.head _))
      k_steps
      refine stop_open ?_
      refine join_glue ofString_nil (News.isList (by assumption) hDm) S9 (by simp only [List.length_nil]; show sumT ts + _ ≤ _; omega) ?_
      intro t5 k5
      have hSr : StrsAre vs9.reverse (ts.reverse.map tx) := by rw [List.map_reverse]; exact strs_rev S9
      have hjl : (glue [] ts).length ≤ 1000 := by
        have := glue_lenT [] ts
        simp only [List.length_nil] at this
        omega
      k_steps
      refine stop_open ?_
      refine join_glue of_sa (News.isList (by assumption) hDm) S9 (by simp only [List.length_nil, List.length_cons]; show sumT ts + _ ≤ _; omega) ?_
      intro t4 k4
      k_steps
      refine stop_open ?_
      refine join_glue ofString_nil (News.isList (by assumption) (.head _)) hSr (by simp only [List.length_nil]; show sumT ts.reverse + _ ≤ _; rw [sumT_rev]; omega) ?_
      intro t3 k3
      k_steps
      refine stop_open ?_
      have hmT : ∀ t ∈ ts, t.length ≤ 100000 := fun t ht => by have := memT ht; omega
      have htl' : ts.length ≤ 1000 := by omega
      refine iter_own InvText rfl (by assumption) (by assumption) (News.isList (by assumption) (.head _)) ⟨rfl, _, map_self _ _⟩ ?turn2 ?done2
      case turn2 =>
        intro i v m₁ news₁ h tk I oI hi hJ off F N
        obtain ⟨e1, v0, e2⟩ := hJ
        subst e1
        subst e2
        obtain ⟨x, tv, e3, hxl⟩ := five hsl htl (by assumption) (List.mem_of_getElem? hi)
        subst e3
        cases hb : found x ts with
        | true =>
          k_steps
          exact text_end (by assumption) (by assumption) off
        | false =>
          k_steps
          exact text_end (by assumption) (by assumption) off
      case done2 =>
        intro m₁ news₁ h tk hJ F N
        obtain ⟨e1, v0, e2⟩ := hJ
        subst e1
        subst e2
        k_steps))
end Mine

end
theorem PySem.Challenge.cw_dn0142_04_holds : PySem.Challenge.rw_dn0142_04.Holds :=
  Mine.law04

