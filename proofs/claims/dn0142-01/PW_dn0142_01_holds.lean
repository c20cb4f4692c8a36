import PyProof.Rows.All
import Wide.All
import OpenK.AllK
import Wide.FinOn
import PySem.Challenge.RW_dn0142_01
open PySem PySem.W PyProof.Rows
set_option Elab.async false
set_option maxRecDepth 100000
set_option maxHeartbeats 8000000
namespace Mine
open_top hd for PySem.Challenge.rw_dn0142_01
end Mine
section
open PySem PySem.W PyProof.Rows PySem.Builtin PySem.Builtin.Str
namespace Mine
def special (c : Nat) : Bool :=
  (decide (9 ≤ c) && decide (c ≤ 13)) || (decide (40 ≤ c) && decide (c ≤ 43)) || (decide (91 ≤ c) && decide (c ≤ 94)) || (decide (123 ≤ c) && decide (c ≤ 126)) || c == 32 || c == 35 || c == 36 || c == 38 || c == 45 || c == 46 || c == 63

def escC (c : Nat) : List Nat := if special c then [92, c] else [c]
def esc (l : List Nat) : List Nat := l.flatMap escC
theorem esc_append (a b : List Nat) : esc (a ++ b) = esc a ++ esc b := List.flatMap_append
theorem esc_cons (c : Nat) (l : List Nat) : esc (c :: l) = escC c ++ esc l := List.flatMap_cons
theorem escC_len (c : Nat) : (escC c).length ≤ 2 := by unfold escC; split <;> simp
theorem esc_len (l : List Nat) : (esc l).length ≤ 2 * l.length := by
  induction l with
  | nil => simp [esc]
  | cons c l ih => rw [esc_cons, List.length_append, List.length_cons]; have := escC_len c; omega

abbrev Grow (h h' : Heap) : Prop := ∀ b o, h.get? b = some o → h'.get? b = some o

section
variable {prog : Program} {w : World} {A : Around} {E : Value → Shared → Prop} {s : Shared}

theorem MapOf.grow {h h' : Heap} {d : Addr} {f : Int → Option Value} (hm : h.MapOf (intKind prog w) d f) (g : Grow h h') : h'.MapOf (intKind prog w) d f :=
  let ⟨o, es, ep, ho, r⟩ := hm; ⟨o, es, ep, g _ _ ho, r⟩

def TabFor (f : Int → Option Value) : Prop := ∀ c : Nat, (special c = false ∧ f c = none) ∨ (special c = true ∧ ∃ u, f c = some (.str ⟨#[92, c]⟩ u))

theorem lookup_rule {d : Addr} {c : Nat} {f : Int → Option Value} {Q : Mapped → Shared → Prop} (hA : A.handled = none)
   (hd : (d == sysModules) = false) (hm : s.heap.MapOf (intKind prog w) d f) (hf : TabFor f)
   (h : ∀ h' tk', Grow s.heap h' → Q (if special c then .text ⟨#[92, c]⟩ else .keep) { s with heap := h', toks := tk' }) :
   wpAny (model prog w) A (tableLookup (.ref d) c) Q E s := by
  unfold tableLookup
  refine wpAny_bind (wpAny_attempt (wpAny_bind (wpAny_mkInt ?_)))
  rcases hf c with ⟨h1, h2⟩ | ⟨h1, u, h2⟩
  · refine wpAny_getItem_missing_of (knd := intKind prog w) (k := (c : Int)) (by simp [intKind, Value.isInt]) hd hA hm h2 fun h' e ne => ?_
    dsimp only
    obtain ⟨ob, t, ho, hc, _⟩ := ne.there
    refine wpAny_bind (wpAny_isInstance (T := "KeyError") (b := true) ⟨ob, ho, hc⟩ (by rw [isSubtype_type]; kernel_rfl) ?_)
    simp only [if_true]
    refine wpAny_bind (wpAny_rule (wpAny_pure ?_))
    have := h h' (s.toks + 1 + 1) ne.keeps
    rw [h1] at this
    exact this
  · refine wpAny_getItem_of (knd := intKind prog w) (k := (c : Int)) (by simp [intKind, Value.isInt]) hm h2 ?_
    dsimp only
    refine wpAny_bind (wpAny_of_eq (a := none) rfl ?_)
    refine wpAny_bind (wpAny_of_eq (a := some ⟨#[92, c]⟩) rfl (wpAny_pure ?_))
    have := h s.heap (s.toks + 1 + 1) (fun _ _ e => e)
    rw [h1] at this
    exact this

/-- the state of translate's loop: what is done so far, and the rest -/
structure TrInv (s₀ : Shared) (x : List Nat) (rest : List Nat) (b : List PySem.Str × Nat × Bool × List (Nat × Option Nat) × Bool) (s' : Shared) : Prop where
  st : ∃ h' tk', s' = { s₀ with heap := h', toks := tk' } ∧ Grow s₀.heap h'
  cut : ∃ pre, x = pre ++ rest ∧ b.1.reverse.flatMap (fun p => p.cps.toList) = esc pre ∧ b.2.1 = (esc pre).length
  known : ∀ p ∈ b.2.2.2.1, special p.1 = false ∧ p.2 = some p.1
  drop : b.2.2.2.2 = false

theorem lookup_known {known : List (Nat × Option Nat)} (hk : ∀ p ∈ known, special p.1 = false ∧ p.2 = some p.1) {c : Nat} {a : Option Nat} (e : List.lookup c known = some a) : special c = false ∧ a = some c := by
  induction known with
  | nil => cases e
  | cons p l ih =>
    rw [List.lookup_cons] at e
    by_cases hc : (c == p.1) = true
    · rw [hc] at e
      have e' : p.2 = a := Option.some.inj e
      have hc' : c = p.1 := eq_of_beq hc
      rw [← e', hc']
      exact hk p (List.mem_cons_self ..)
    · have hc' : (c == p.1) = false := by simpa using hc
      rw [hc'] at e
      exact ih (fun q hq => hk q (List.mem_cons_of_mem _ hq)) e

theorem foldl_cps (l : List PySem.Str) : ∀ acc : Array Nat, (l.foldl (fun acc p => acc ++ p.cps) acc).toList = acc.toList ++ l.flatMap (fun p => p.cps.toList) := by
  induction l with
  | nil => intro acc; simp
  | cons p l ih => intro acc; rw [List.foldl_cons, ih, List.flatMap_cons]; simp

theorem translate_rule {d : Addr} {x : PySem.Str} {t : Tok} {f : Int → Option Value} {Q : Value → Shared → Prop} (hA : A.handled = none)
   (hd : (d == sysModules) = false) (hm : s.heap.MapOf (intKind prog w) d f) (hf : TabFor f)
   (hlen : 2 * x.cps.size ≤ sizeLine)
   (h : ∀ h' tk' t', Grow s.heap h' → Q (.str ⟨(esc x.cps.toList).toArray⟩ t') { s with heap := h', toks := tk' }) :
   wpAny (model prog w) A (call (.builtin "str.translate") [.str x t, .ref d]) Q E s := by
  refine wpAny_call_entry PySem.F.slot_str_translate (PySem.typeIs_str _ _ _) PySem.F.entry_str_translate ?_ (PySem.F.args_str_translate_2 _ _)
  unfold Builtin.«str.translate»
  refine wpAny_bind (wpAny_of_eq (a := (.str x t, x, .ref d)) rfl ?_)
  dsimp only
  by_cases h0 : x.length = 0
  · rw [if_pos (by simp [h0])]
    refine wpAny_bind (wpAny_rule (wpAny_bind (wpAny_of_eq (a := .str x t) rfl (wpAny_pure ⟨_, rfl, ?_⟩))))
    have hx : x = ⟨(esc x.cps.toList).toArray⟩ := by
      obtain ⟨⟨l⟩⟩ := x
      have : l = [] := List.length_eq_zero_iff.mp h0
      subst this; rfl
    have := h s.heap s.toks t (fun _ _ e => e)
    rw [← hx] at this
    exact this
  · rw [if_neg (by simp [h0])]
    refine wpAny_bind (MeetsSeq2.wpAny_forIn_array _ (TrInv s x.cps.toList) _ ?turn ?fin _ _ ?start)
    case start => exact ⟨⟨s.heap, s.toks, rfl, fun _ _ e => e⟩, ⟨[], rfl, rfl, rfl⟩, (fun p hp => nomatch hp), rfl⟩
    case turn =>
      rintro c rest ⟨pieces, total, fast, known, drop⟩ s' ⟨⟨h', tk', rfl, g⟩, ⟨pre, hx, hp, ht⟩, hk, hdr⟩
      dsimp only at hp ht hk hdr ⊢
      subst hdr
      have hl : (esc pre).length ≤ sizeLine := by
        have := esc_len pre
        have hx' : x.cps.size = pre.length + (rest.length + 1) := by rw [← Array.length_toList, hx]; simp
        omega
      rw [if_neg (by unfold tooLong; simp; omega)]
      have hm' := MapOf.grow hm g
      have slow : ∀ fast known, (∀ p ∈ known, special p.1 = false ∧ p.2 = some p.1) → ∀ h₂ tk₂, Grow s.heap h₂ → wpAny (model prog w) A.in1
          (do
            let __do_lift ← tableLookup (.ref d) c
            match __do_lift with
              | Mapped.keep => pure (ForInStep.yield ((⟨#[c]⟩ : PySem.Str) :: pieces, total + 1, fast, known, false))
              | Mapped.drop => pure (ForInStep.yield (pieces, total, fast, known, true))
              | Mapped.char d => pure (ForInStep.yield ((⟨#[d]⟩ : PySem.Str) :: pieces, total + 1, fast, known, false))
              | Mapped.text t => pure (ForInStep.yield (t :: pieces, total + t.length, fast, known, false)))
          (fun r s' => match r with
            | ForInStep.yield b' => TrInv s x.cps.toList rest b' s'
            | ForInStep.done b' => False) E { s with heap := h₂, toks := tk₂ } := by
        intro fast known hk h₂ tk₂ g₂
        refine wpAny_bind (lookup_rule (s := { s with heap := h₂, toks := tk₂ }) (by exact hA) hd (MapOf.grow hm g₂) hf fun h₃ tk₃ g₃ => ?_)
        have gg : Grow s.heap h₃ := fun b o e => g₃ b o (g₂ b o e)
        cases hs : special c
        · simp only [Bool.false_eq_true, if_false]
          refine wpAny_pure ⟨⟨h₃, tk₃, rfl, gg⟩, ⟨pre ++ [c], by simp [hx], ?_, ?_⟩, hk, rfl⟩
          · simp [hp, esc, escC, hs]
          · simp [ht, esc, escC, hs]
        · simp only [if_true]
          refine wpAny_pure ⟨⟨h₃, tk₃, rfl, gg⟩, ⟨pre ++ [c], by simp [hx], ?_, ?_⟩, hk, rfl⟩
          · simp [hp, esc, escC, hs]
          · simp [ht, esc, escC, hs, PySem.Str.length]
      cases fast with
      | false =>
        simp only [Bool.false_eq_true, if_false]
        exact wpAny_mono (slow false known hk h' tk' g) (fun r s' hr => by cases r with | yield b' => exact hr | done b' => exact hr.elim) (fun _ _ e => e)
      | true =>
        simp only [if_true, Bool.false_eq_true, if_false]
        cases hl : List.lookup c known with
        | some a =>
          obtain ⟨h1, rfl⟩ := lookup_known hk hl
          dsimp only
          refine wpAny_bind (wpAny_pure (wpAny_pure ⟨⟨h', tk', rfl, g⟩, ⟨pre ++ [c], by simp [hx], ?_, ?_⟩, hk, rfl⟩))
          · simp [hp, esc, escC, h1]
          · simp [ht, esc, escC, h1]
        | none =>
          dsimp only
          refine wpAny_bind (lookup_rule (s := { s with heap := h', toks := tk' }) (by exact hA) hd hm' hf fun h₃ tk₃ g₃ => ?_)
          have gg : Grow s.heap h₃ := fun b o e => g₃ b o (g b o e)
          cases hs : special c
          · simp only [Bool.false_eq_true, if_false]
            refine wpAny_bind (wpAny_pure (wpAny_pure ⟨⟨h₃, tk₃, rfl, gg⟩, ⟨pre ++ [c], by simp [hx], ?_, ?_⟩, ?_, rfl⟩))
            · simp [hp, esc, escC, hs]
            · simp [ht, esc, escC, hs]
            · intro p hp
              rcases List.mem_cons.mp hp with rfl | hp
              · exact ⟨hs, rfl⟩
              · exact hk p hp
          · simp only [if_true]
            refine wpAny_bind (wpAny_pure (wpAny_bind (wpAny_rule ?_)))
            exact wpAny_mono (slow false known hk h₃ tk₃ gg) (fun r s' hr => by cases r with | yield b' => exact hr | done b' => exact hr.elim) (fun _ _ e => e)
    case fin =>
      rintro ⟨pieces, total, fast, known, drop⟩ s' ⟨⟨h', tk', rfl, g⟩, ⟨pre, hx, hp, ht⟩, hk, hdr⟩
      dsimp only at hp ht hk hdr ⊢
      have hl : (esc pre).length ≤ sizeLine := by
        have := esc_len pre
        have hx' : x.cps.size = pre.length := by rw [← Array.length_toList, hx]; simp
        omega
      rw [if_neg (by unfold tooLong; simp; omega)]
      have e : ({ cps := List.foldl (fun acc p => acc ++ p.cps) #[] pieces.reverse } : PySem.Str) = ⟨(esc x.cps.toList).toArray⟩ := by
        congr 1
        apply Array.toList_inj.mp
        rw [foldl_cps, hx]
        simpa using hp
      rw [e]
      refine wpAny_bind (wpAny_mkStr (wpAny_pure ⟨_, rfl, h h' _ _ g⟩) ?_)
      show (esc x.cps.toList).toArray.size ≤ sizeLine
      rw [hx, List.append_nil, List.size_toArray]
      exact hl
end
end Mine

end
section
open PySem PySem.W PyProof.Rows PySem.Builtin PySem.Builtin.Str
namespace Mine
theorem new_eq {b : Array UInt8} {t u : Tok} : Builtin.«str.__new__» ⟨[.type "str", .bytes b t, .str (PySem.Str.ofString "latin1") u], []⟩ =
   (do
     let e ← mkStr (PySem.Str.ofString "latin1")
     rule "str.__new__.decode-bytes"
     let v ← call (.builtin "bytes.decode") [.bytes b t] [(PySem.Str.ofString "encoding", e)]
     ret v) := by kernel_rfl
theorem dec_eq {c : UInt8} {cs : List UInt8} {t u : Tok} : Builtin.«bytes.decode» ⟨[.bytes (c :: cs).toArray t], [(PySem.Str.ofString "encoding", .str (PySem.Str.ofString "latin1") u)]⟩ =
   (do
     let _ ← mkStr (PySem.Str.ofString "utf-8")
     let e ← mkStr (PySem.Str.ofString "latin1")
     let i ← mkStr (PySem.Str.ofString "bytes.decode")
     let v ← call (.builtin "_codecs.decode.text") [.bytes (c :: cs).toArray t, e, .none, i]
     ret v) := by kernel_rfl
theorem dec_nil {t u : Tok} : Builtin.«bytes.decode» ⟨[.bytes #[] t], [(PySem.Str.ofString "encoding", .str (PySem.Str.ofString "latin1") u)]⟩ =
   (do
     rule "bytes.decode.empty"
     retStr PySem.Str.empty) := by kernel_rfl
theorem road_latin1 {id : String} {b : Array UInt8} : _codecs.decodeRoad id b (PySem.Str.ofString "latin1") none [] = (_codecs.runDecoder id _codecs.latin1Decoder none true b 0 [] >>= fun r => mkStr ⟨r.1⟩) := by kernel_rfl
theorem enc_eq {x : PySem.Str} {t u : Tok} : Builtin.«str.encode» ⟨[.str x t, .str (PySem.Str.ofString "latin1") u], []⟩ =
   ((_codecs.encodeNarrow "str.encode" _codecs.latin1Codec none (.str x t) x >>= fun b => mkBytes b) >>= fun v => ret v) := by kernel_rfl

section
variable {M : Model} {A : Around} {E : Value → Shared → Prop} {s : Shared}
theorem runDecoder_latin1 {id : String} {b : Array UInt8} {Q : Array Nat × Nat → Shared → Prop} (hb : b.size ≤ sizeLine) (h : Q (b.map UInt8.toNat, b.size) s) :
    wpAny M A (_codecs.runDecoder id _codecs.latin1Decoder none true b 0 []) Q E s := by
  unfold _codecs.runDecoder
  dsimp only
  rw [KPc.range_list]
  refine wpAny_bind (wpAny_forIn_list _ (fun rest st s' => s = s' ∧ st.1 + rest.length = b.size ∧ st.2.1 = ((b.toList.take st.1).map UInt8.toNat).toArray) _ ?turn ?fin _ _ ?start)
  case start => exact ⟨rfl, by simp, by simp⟩
  case fin =>
    rintro ⟨p, out, st⟩ s' ⟨rfl, hp, ho⟩
    refine wpAny_pure ?_
    dsimp only at hp ho ⊢
    have hp' : p = b.size := by simpa using hp
    have e : out = b.map UInt8.toNat := by
      rw [ho, hp']
      apply Array.toList_inj.mp
      rw [List.take_of_length_le (by simp)]
      simp
    rw [e, hp']
    exact h
  case turn =>
    rintro k rest ⟨p, out, st⟩ s' ⟨rfl, hp, ho⟩
    dsimp only at hp ho ⊢
    rw [List.length_cons] at hp
    have hlt : p < b.size := by omega
    have hos : out.size = p := by rw [ho]; simp; omega
    rw [if_neg (by omega), if_neg (by omega)]
    refine wpAny_pure ⟨rfl, by dsimp only; omega, ?_⟩
    dsimp only
    rw [ho]
    apply Array.toList_inj.mp
    rw [List.take_add_one]
    simp [hlt, Array.getD]
theorem extract_latin1 {x : PySem.Str} (hx : ∀ c ∈ x.cps, c < 256) : Array.findIdx? _codecs.latin1Codec.bad (x.cps.extract 0) = none := by
  rw [Array.findIdx?_eq_none_iff]
  intro c hc
  have : c ∈ x.cps := by simpa using hc
  have := hx c this
  show decide (c ≥ 256) = false
  simp; omega
theorem foldl_toUInt8 (l : List Nat) : ∀ acc : Array UInt8, (l.foldl (fun acc y => acc ++ (_codecs.latin1Codec.bytesOf y).toArray) acc).toList = acc.toList ++ l.map Nat.toUInt8 := by
  induction l with
  | nil => intro acc; simp
  | cons c l ih => intro acc; rw [List.foldl_cons, ih]; simp [_codecs.latin1Codec]
theorem encode_latin1 {id : String} {x : PySem.Str} {v : Value} {Q : Array UInt8 → Shared → Prop} (hb : x.cps.size ≤ sizeLine) (hx : ∀ c ∈ x.cps, c < 256) (h : Q (x.cps.map Nat.toUInt8) s) :
    wpAny M A (_codecs.encodeNarrow id _codecs.latin1Codec none v x) Q E s := by
  unfold _codecs.encodeNarrow
  dsimp only
  rw [KPc.range_list]
  refine wpAny_bind (wpAny_forIn_list _ (fun rest st s' => s = s' ∧ ((st.1 = 0 ∧ st.2.1 = #[] ∧ rest.length = x.cps.size) ∨ (st.1 = x.cps.size ∧ st.2.1 = x.cps.map Nat.toUInt8))) _ ?turn ?fin _ _ ?start)
  case start => exact ⟨rfl, .inl ⟨rfl, rfl, by simp [PySem.Str.length]⟩⟩
  case fin =>
    rintro ⟨p, out, st⟩ s' ⟨rfl, hh⟩
    refine wpAny_pure ?_
    dsimp only at hh ⊢
    rcases hh with ⟨_, ho, hr⟩ | ⟨_, ho⟩
    · have : x.cps = #[] := by
        apply Array.eq_empty_of_size_eq_zero
        simpa using hr.symm
      rw [this] at h
      rw [ho]
      simpa using h
    · rw [ho]; exact h
  case turn =>
    rintro k rest ⟨p, out, st⟩ s' ⟨rfl, hh⟩
    dsimp only at hh ⊢
    rcases hh with ⟨hp, ho, hr⟩ | ⟨hp, ho⟩
    · subst hp; subst ho
      rw [List.length_cons] at hr
      have h0 : 0 < x.cps.size := by omega
      rw [if_neg (by simp)]
      rw [Array.getElem?_eq_getElem h0]
      dsimp only
      have h1 : _codecs.latin1Codec.bad x.cps[0] = false := by
        have := hx x.cps[0] (Array.getElem_mem h0)
        show decide (x.cps[0] ≥ 256) = false
        simp; omega
      rw [h1]
      simp only [Bool.not_false, if_true]
      refine wpAny_pure ⟨rfl, .inr ⟨?_, ?_⟩⟩
      · dsimp only
        rw [extract_latin1 hx]
        simp
      · dsimp only
        rw [extract_latin1 hx]
        apply Array.toList_inj.mp
        rw [← Array.foldl_toList, foldl_toUInt8]
        simp
    · subst hp; subst ho
      rw [if_neg (by simpa using hb)]
      rw [Array.getElem?_eq_none (Nat.le_refl _)]
      exact wpAny_pure (wpAny_pure h)
end

theorem typeCall_str_2 (a b : Value) : checkTypeCall "str" ⟨[a, b], []⟩ = pure () := by kernel_rfl
theorem newCall_str_2 (a b : Value) : checkBuiltinCall "str.__new__" ⟨[.type "str", a, b], []⟩ = pure () := by kernel_rfl
theorem args_object_init_3 (a b c : Value) : argsOk "object.__init__" ⟨[a, b, c], []⟩ := by unfold argsOk; kernel_rfl
theorem args_decode_kw (a b : Value) : argsOk "bytes.decode" ⟨[a], [(PySem.Str.ofString "encoding", b)]⟩ := by unfold argsOk; kernel_rfl

theorem meets_text {b : Array UInt8} {t t1 t2 : Tok} {d : PySem.Str} :
    Meets (Builtin.«_codecs.decode.text» ⟨[.bytes b t, .str (PySem.Str.ofString "latin1") t1, .none, .str d t2], []⟩) (fun _ R s => b.size ≤ sizeLine ∧ R (.ok (.ret (.str ⟨b.map UInt8.toNat⟩ s.toks))) { s with toks := s.toks + 1 }) := by
  refine .of_wp fun prog w A R s hS => ?_
  obtain ⟨hsz, h⟩ := hS
  show wpAny _ _ (Bytes.bytesLike _ (.bytes b t) >>= fun r => _) _ _ s
  refine wpAny_bind (wpAny_of_eq KBd.like_eq ?_)
  refine wpAny_bind (wpAny_of_eq KBd.held_eq ?_)
  show wpAny _ _ (_codecs.decodeRoad _ b (PySem.Str.ofString "latin1") none [] >>= fun v => _) _ _ s
  rw [road_latin1]
  refine wpAny_bind (wpAny_bind (runDecoder_latin1 hsz ?_))
  exact wpAny_mkStr (wpAny_pure ⟨_, rfl, h⟩) (by show (b.map UInt8.toNat).size ≤ sizeLine; simpa using hsz)

section
variable {prog : Program} {w : World} {A : Around} {E : Value → Shared → Prop} {s : Shared}
theorem decode_kw {b : Array UInt8} {t u : Tok} {Q : Value → Shared → Prop} (hb : b.size ≤ sizeLine) (h : ∀ t' k, Q (.str ⟨b.map UInt8.toNat⟩ t') { s with toks := k }) :
    wpAny (model prog w) A (call (.builtin "bytes.decode") [.bytes b t] [(PySem.Str.ofString "encoding", .str (PySem.Str.ofString "latin1") u)]) Q E s := by
  refine wpAny_call_entry_kw FB.slot_bytes_decode (typeIs_bytes _ _ _) FB.entry_bytes_decode ?_ (args_decode_kw _ _)
  obtain ⟨l⟩ := b
  cases l with
  | nil =>
    rw [dec_nil]
    refine wpAny_bind (wpAny_rule (wpAny_bind (wpAny_mkStr (wpAny_pure ⟨_, rfl, ?_⟩) (by decide))))
    have e : (⟨Array.map UInt8.toNat ⟨[]⟩⟩ : PySem.Str) = PySem.Str.empty := by simp [PySem.Str.empty]
    have := h s.toks (s.toks + 1)
    rw [e] at this
    exact this
  | cons c cs =>
    rw [dec_eq]
    refine wpAny_bind (wpAny_mkStr ?_ (by decide))
    refine wpAny_bind (wpAny_mkStr ?_ (by decide))
    refine wpAny_bind (wpAny_mkStr ?_ (by decide))
    exact wpAny_bind (call_function_meets KBd.kind_text KBd.plain_text KBd.entry_text (KBd.args_text _ _ _ _) meets_text ⟨hb, wpAny_pure ⟨_, rfl, h _ _⟩⟩)

theorem str_latin1 {b : Array UInt8} {t u : Tok} {Q : Value → Shared → Prop} (hb : b.size ≤ sizeLine) (h : ∀ t' k, Q (.str ⟨b.map UInt8.toNat⟩ t') { s with toks := k }) :
    wpAny (model prog w) A (call (.type "str") [.bytes b t, .str (PySem.Str.ofString "latin1") u]) Q E s := by
  refine callType_new PySem.F.called_str (by decide) (typeCall_str_2 _ _) (newCall_str_2 _ _) (fun obj => args_object_init_3 obj _ _) PySem.F.entry_str_new
    (S := fun _ R s => ∀ t' k, R (.ok (.ret (.str ⟨b.map UInt8.toNat⟩ t'))) { s with toks := k }) ?_ (fun t' k => ⟨typeIs_str _ _ _, h t' k⟩)
  refine .of_wp fun prog w A R s hS => ?_
  rw [new_eq]
  refine wpAny_bind (wpAny_mkStr ?_ (by decide))
  refine wpAny_bind (wpAny_rule (wpAny_bind (decode_kw hb fun t' k => wpAny_pure ⟨_, rfl, hS t' k⟩)))

theorem encode_call {x : PySem.Str} {t u : Tok} {Q : Value → Shared → Prop} (hb : x.cps.size ≤ sizeLine) (hx : ∀ c ∈ x.cps, c < 256) (h : ∀ t' k, Q (.bytes (x.cps.map Nat.toUInt8) t') { s with toks := k }) :
    wpAny (model prog w) A (call (.builtin "str.encode") [.str x t, .str (PySem.Str.ofString "latin1") u]) Q E s := by
  refine wpAny_call_entry PySem.F.slot_str_encode (typeIs_str _ _ _) PySem.F.entry_str_encode ?_ (PySem.F.args_str_encode_2 _ _)
  rw [enc_eq]
  refine wpAny_bind (wpAny_bind (encode_latin1 hb hx ?_))
  unfold mkBytes
  rw [if_neg (by simpa using hb)]
  refine wpAny_bind (wpAny_fresh (wpAny_pure (wpAny_pure ⟨_, rfl, h _ _⟩)))
end
end Mine

end
section
open PySem PySem.W PyProof.Rows PySem.Builtin PySem.Builtin.Str
namespace Mine
def tabOK (es : Array DictEntry) : Bool :=
  (es.toList.all fun e => match e.key with | .int k _ => decide (k < 128) && (e.hash == hashInt k) | _ => false) &&
  (List.range 128).all fun c => match findBy Value.isInt es (c : Int) with | none => !special c | some (.str y _) => special c && (y == ⟨#[92, c]⟩) | _ => false

theorem special_big {c : Nat} (h : 128 ≤ c) : special c = false := by
  unfold special
  simp
  omega

theorem tab_for {es : Array DictEntry} (ok : tabOK es = true) : TabFor (findBy Value.isInt es) := by
  unfold tabOK at ok
  rw [Bool.and_eq_true] at ok
  obtain ⟨h1, h2⟩ := ok
  intro c
  by_cases hc : c < 128
  · have := List.all_eq_true.mp h2 c (List.mem_range.mpr hc)
    revert this
    cases hf : findBy Value.isInt es (c : Int) with
    | none => intro h; exact .inl ⟨by simpa using h, rfl⟩
    | some v =>
      cases v with
      | str y u =>
        intro h
        rw [Bool.and_eq_true] at h
        exact .inr ⟨h.1, u, by rw [eq_of_beq h.2]⟩
      | _ => intro h; cases h
  · refine .inl ⟨special_big (by omega), ?_⟩
    unfold findBy
    have : es.find? (fun e => Value.isInt (c : Int) e.key) = none := by
      rw [Array.find?_eq_none]
      intro e he
      have := List.all_eq_true.mp h1 e (by simpa using he)
      revert this
      cases hk : e.key with
      | int k t =>
        intro h
        simp only [Bool.and_eq_true, decide_eq_true_eq] at h
        simp [Value.isInt]
        omega
      | _ => intro h; cases h
    rw [this]
    rfl

theorem tab_of {prog : Program} {w : World} {K : Frag} {h : Heap} {d : Addr} (X : K.In h) {es : Array DictEntry} {ep : Nat} (e : K.lookup d = some ⟨.type "dict", none, .dict es ep, #[]⟩) (ok : tabOK es = true) :
    h.MapOf (intKind prog w) d (findBy Value.isInt es) := by
  refine ⟨_, es, ep, X _ _ e, ⟨rfl, rfl, rfl⟩, rfl, ?_, fun k => rfl⟩
  intro en hen
  unfold tabOK at ok
  rw [Bool.and_eq_true] at ok
  have := List.all_eq_true.mp ok.1 en (by simpa using hen)
  revert this
  cases hk : en.key with
  | int k t =>
    intro h
    simp only [Bool.and_eq_true, decide_eq_true_eq] at h
    exact ⟨k, by simp [intKind, Value.isInt], eq_of_beq h.2⟩
  | _ => intro h; cases h

section
variable {M : Model} {A : Around} {E : Value → Shared → Prop} {s : Shared}
theorem gm_translate {x : PySem.Str} {t : Tok} {pl : Sem Bool} {Q : Value × List Value → Shared → Prop} (h : Q (.builtin "str.translate", [.str x t]) s) : wpAny M A (getMethod (.str x t) (PySem.Str.ofString "translate") pl) Q E s := by
  with_reducible exact PySem.GM.of (.str x t) (typeIs_str _ _ _) PySem.F.slot_str_translate PySem.F.type_str_translate PySem.GM.noRef h
theorem gm_encode {x : PySem.Str} {t : Tok} {pl : Sem Bool} {Q : Value × List Value → Shared → Prop} (h : Q (.builtin "str.encode", [.str x t]) s) : wpAny M A (getMethod (.str x t) (PySem.Str.ofString "encode") pl) Q E s := by
  with_reducible exact PySem.GM.of (.str x t) (typeIs_str _ _ _) PySem.F.slot_str_encode PySem.F.type_str_encode PySem.GM.noRef h
end
theorem tr_step {prog : Program} {w : World} {A : Around} {E : Value → Shared → Prop} {s : Shared} {K : Frag} {h₀ : Heap} {L : Addr} {m : PySem.Str → Option Value} {news : List (Addr × Obj)} {d : Addr} {x : PySem.Str} {t : Tok} {es : Array DictEntry} {ep : Nat} {Q : Value → Shared → Prop}
   (F : Fr h₀ L s.heap m) (N : News h₀ L s.heap news) (X : K.In h₀) (e : K.lookup d = some ⟨.type "dict", none, .dict es ep, #[]⟩) (ok : tabOK es = true) (hd : (d == sysModules) = false) (hA : A.handled = none) (hlen : 2 * x.cps.size ≤ sizeLine)
   (h : ∀ h' tk' t', Fr h₀ L h' m → News h₀ L h' news → Q (.str ⟨(esc x.cps.toList).toArray⟩ t') { s with heap := h', toks := tk' }) :
   wpAny (model prog w) A (call (.builtin "str.translate") [.str x t, .ref d]) Q E s :=
  translate_rule hA hd (tab_of (X.keeps F.keep) e ok) (tab_for ok) hlen fun h' tk' t' g => h h' tk' t' (F.keeps g) (N.grown g)

def octs (l : List Nat) : Array UInt8 := (l.map Nat.toUInt8).toArray
def cpsOf (b : Array UInt8) : List Nat := b.toList.map UInt8.toNat
theorem esc_small {l : List Nat} (h : ∀ c ∈ l, c < 256) : ∀ c ∈ esc l, c < 256 := by
  intro c hc
  obtain ⟨d, hd, hcd⟩ := List.mem_flatMap.mp hc
  unfold escC at hcd
  have := h d hd
  split at hcd
  · simp at hcd; omega
  · simp at hcd; omega
theorem cpsOf_small {b : Array UInt8} : ∀ c ∈ cpsOf b, c < 256 := by
  intro c hc
  obtain ⟨d, _, rfl⟩ := List.mem_map.mp hc
  exact d.toNat_lt

theorem special_iff {c : Nat} : special c = true ↔ ((9 ≤ c ∧ c ≤ 13) ∨ (40 ≤ c ∧ c ≤ 43) ∨ (91 ≤ c ∧ c ≤ 94) ∨ (123 ≤ c ∧ c ≤ 126) ∨ c = 32 ∨ c = 35 ∨ c = 36 ∨ c = 38 ∨ c = 45 ∨ c = 46 ∨ c = 63) := by
  unfold special
  simp only [Bool.or_eq_true, Bool.and_eq_true, decide_eq_true_eq, beq_iff_eq]
  omega
theorem special_any {c : Nat} (h : ¬ ((9 ≤ c ∧ c ≤ 13) ∨ (40 ≤ c ∧ c ≤ 43) ∨ (91 ≤ c ∧ c ≤ 94) ∨ (123 ≤ c ∧ c ≤ 126))) : ([32, 35, 36, 38, 45, 46, 63].any fun x : Int => x == (c : Int)) = special c := by
  rw [Bool.eq_iff_iff, special_iff]
  simp only [List.any_cons, List.any_nil, Bool.or_false, Bool.or_eq_true, beq_iff_eq]
  omega
theorem News.tl {h₀ h : Heap} {L : Addr} {q : Addr × Obj} {news : List (Addr × Obj)} (N : News h₀ L h (q :: news)) : News h₀ L h news := fun p hp => N p (List.mem_cons_of_mem _ hp)
end Mine

end
section
open PySem PySem.W PyProof.Rows PySem.Spec PySem.Calls
namespace Mine

theorem ne_allLt {d : Addr} : ∀ {l : List (Addr × Obj)}, AllLt d l → ∀ p ∈ l, p.1 ≠ d
  | [], _, _, h => nomatch h
  | q :: _, x, p, h => by
    rcases List.mem_cons.mp h with rfl | h
    · exact Nat.ne_of_lt x.1
    · exact ne_allLt x.2 p h
theorem ne_lt {d : Addr} {l : List (Addr × Obj)} (h : ∀ p ∈ l, p.1 < d) : ∀ p ∈ l, p.1 ≠ d := fun p hp => Nat.ne_of_lt (h p hp)

/-- a claim of a def, with room for k frames -/
abbrev Claim (k : Nat) (prog : Program) (w : World) (K : Frag) (p : Program) (loose : List Str) (mean : ExcName → Option Value) (mg mb : Str → Option Value) (f : Addr) (news : List (Addr × Obj)) (vs : List Value) (R : Tok → Value) : Prop :=
  ∀ (dp un : Nat) (gd : Option (List Code)) (cn : Str) (cs : Scope) (a : Addr) (ccd : Value) (cl : List (Str × Addr)) (outer : List Env) (A₀ : Around) (base h₀ : Heap) (L : Addr) (m : Str → Option Value) (s : Shared) (Q E : Value → Shared → Prop),
    Below A₀ base outer h₀ → Fr h₀ L s.heap m → K.In h₀ → News h₀ L s.heap news → Top p loose mean mg mb h₀ → cs.kind = .function →
    dp + k < recursionLimit → un + 8 * k < cLine → (∀ (t : Tok) (h' : Heap) (tk' : Nat), Fr h₀ L h' m → News h₀ L h' news → Q (R t) { s with heap := h', toks := tk' }) →
      wpAny (model prog w) (ktrTop dp un gd cn cs L a ccd cl outer) (call (.ref f) vs) Q E s

theorem claim_use {k : Nat} {prog : Program} {w : World} {K : Frag} {p : Program} {loose : List Str} {mean : ExcName → Option Value} {mg mb : Str → Option Value} {f : Addr} {news : List (Addr × Obj)} {vs : List Value} {R : Tok → Value}
    {dp un : Nat} {gd : Option (List Code)} {cn : Str} {cs : Scope} {a : Addr} {ccd : Value} {cl : List (Str × Addr)} {outer : List Env} {A₀ : Around} {base h₀ : Heap} {L : Addr} {m : Str → Option Value} {s : Shared} {Q E : Value → Shared → Prop}
    (C : Claim k prog w K p loose mean mg mb f news vs R) (B : Below A₀ base outer h₀) (F : Fr h₀ L s.heap m) (X : K.In h₀) (N : News h₀ L s.heap news) (T : Top p loose mean mg mb h₀) (hk : cs.kind = .function)
    (hd : dp + k < recursionLimit) (hu : un + 8 * k < cLine) (ret : ∀ (t : Tok) (h' : Heap) (tk' : Nat), Fr h₀ L h' m → News h₀ L h' news → Q (R t) { s with heap := h', toks := tk' }) :
    wpAny (model prog w) (ktrTop dp un gd cn cs L a ccd cl outer) (call (.ref f) vs) Q E s := C _ _ _ _ _ _ _ _ _ _ _ _ _ _ _ _ _ B F X N T hk hd hu ret

/-- what a turn must show at its end -/
def TEnd (h₀ : Heap) (L : Addr) (J : (Str → Option Value) → List (Addr × Obj) → Prop) (I : Addr) (oI : Obj) (s₁ s₂ : Shared) : Prop :=
  ∃ h' tk m' news', s₂ = { s₁ with heap := h', toks := tk } ∧ Fr h₀ L h' m' ∧ News h₀ L h' ((I, oI) :: news') ∧ (∀ p ∈ news', p.1 ≠ I) ∧ J m' news'
def TPost (h₀ : Heap) (L : Addr) (J : (Str → Option Value) → List (Addr × Obj) → Prop) (I : Addr) (oI : Obj) (s₁ : Shared) (Q : Flow → Shared → Prop) (f : Flow) (s₂ : Shared) : Prop :=
  match f with
  | .ret v => Q (.ret v) s₂
  | .brk => Q .next s₂
  | _ => TEnd h₀ L J I oI s₁ s₂
section
variable {h₀ : Heap} {L : Addr} {J : (Str → Option Value) → List (Addr × Obj) → Prop} {I : Addr} {oI : Obj} {s₁ s₂ : Shared} {Q : Flow → Shared → Prop}
theorem TPost.next (h : TEnd h₀ L J I oI s₁ s₂) : TPost h₀ L J I oI s₁ Q .next s₂ := h
theorem TPost.ret {v : Value} (h : Q (.ret v) s₂) : TPost h₀ L J I oI s₁ Q (.ret v) s₂ := h
theorem TPost.cont (h : TEnd h₀ L J I oI s₁ s₂) : TPost h₀ L J I oI s₁ Q .cont s₂ := h
theorem TEnd.mk' {h' : Heap} {tk : Nat} {m' : Str → Option Value} {all news' : List (Addr × Obj)} (F : Fr h₀ L h' m') (N : News h₀ L h' all) (sub : ∀ p ∈ (I, oI) :: news', p ∈ all) (off : ∀ p ∈ news', p.1 ≠ I) (j : J m' news') :
    TEnd h₀ L J I oI s₁ { s₁ with heap := h', toks := tk } := ⟨h', tk, m', news', rfl, F, fun p hp => N p (sub p hp), off, j⟩
end

section
variable {prog : Program} {w : World} {A : Around} {E : Value → Shared → Prop} {s : Shared} {env : Env} {h₀ : Heap} {x : Str} {body : List Stmt} {Q : Flow → Shared → Prop}

theorem loop_of_walk {I : Addr} {n : Nat} {P : Nat → Value → Prop} {St : Nat → Heap → Prop} {o : Obj} {m₀ : Str → Option Value} {news : List (Addr × Obj)} (J : Nat → (Str → Option Value) → List (Addr × Obj) → Prop)
    (W : Walks prog w A I [I] [I] n P St) (alive : ∀ i h, St i h → ∃ o, h.get? I = some o) (hI : I = s.heap.objs.size) (hst : St 0 (s.heap.push o))
    (F : Fr h₀ env.locals s.heap m₀) (N : News h₀ env.locals s.heap news) (hj : J 0 m₀ news)
    (turn : ∀ i v m₁ news₁ h tk I oI, i < n → P i v → J i m₁ news₁ → (∀ p ∈ news₁, p.1 ≠ I) → Fr h₀ env.locals h (fun y => if y = x then some v else m₁ y) → News h₀ env.locals h ((I, oI) :: news₁) →
      wpAny (model prog w) A (execs body env) (TPost h₀ env.locals (J (i + 1)) I oI { s with heap := h, toks := tk } Q) E { s with heap := h, toks := tk })
    (done : ∀ m₁ news₁ h tk, J n m₁ news₁ → Fr h₀ env.locals h m₁ → News h₀ env.locals h news₁ → Q .next { s with heap := h, toks := tk }) :
    LoopAtV prog w A h₀ env x body Q E (.ref I) { s with heap := s.heap.push o } := by
  subst hI
  refine ⟨_, _, _, n, _, _, m₀, news, J, rfl, W, ?_, ?_, ?_, hst, F.push _, (fun p hp => ⟨Heap.get?_push_of_some _ (N p hp).1, (N p hp).2⟩), hj, ?_, ?_⟩
  · intro hm
    exact absurd F.ns.lt ((List.mem_singleton.mp hm) ▸ Nat.lt_irrefl _)
  · intro b hb
    rw [List.mem_singleton.mp hb]
    exact next_is_new F
  · intro p hp hI
    exact absurd (Heap.lt_size (N p hp).1) ((List.mem_singleton.mp hI) ▸ Nat.lt_irrefl _)
  · rintro i v m₁ news₁ s₁ own ⟨hh', tk', rfl⟩ hin hP hJ hoff hsub hget hall hst₁ F₁ N₁
    obtain ⟨oI, hoI⟩ := alive _ _ hst₁
    have hI₀ : h₀.get? s.heap.objs.size = none := next_is_new F
    have hmem : (s.heap.objs.size, oI) ∈ own := hall _ (List.mem_singleton.mpr rfl) hI₀ oI hoI
    have hown : ∀ p ∈ own, p = (s.heap.objs.size, oI) := fun p hp => by
      have h1 : p.1 = s.heap.objs.size := List.mem_singleton.mp (hsub p hp)
      have h2 := hget p hp
      rw [h1] at h2
      have h3 : some oI = some p.2 := hoI.symm.trans h2
      obtain ⟨p1, p2⟩ := p
      cases h1; cases h3; rfl
    have hoff' : ∀ p ∈ news₁, p.1 ≠ s.heap.objs.size := fun p hp e => hoff p hp (List.mem_singleton.mpr e)
    refine wpAny_mono (turn i v m₁ news₁ hh' tk' s.heap.objs.size oI hin hP hJ hoff' F₁ ?_) (fun f s₂ p => ?_) fun _ _ e => e
    · intro p hp
      rcases List.mem_cons.mp hp with rfl | hp
      · exact N₁ _ (List.mem_append_left _ hmem)
      · exact N₁ p (List.mem_append_right _ hp)
    have fin : TEnd h₀ env.locals (J (i + 1)) s.heap.objs.size oI { s with heap := hh', toks := tk' } s₂ → LoopStepU h₀ env.locals [s.heap.objs.size] own (J (i + 1)) { s with heap := hh', toks := tk' } .next s₂ := by
      rintro ⟨h', tk, m', news', e, F', N', off, hm⟩
      refine ⟨rfl, h', tk, m', news', e, F', fun p hp => ?_, fun p hp hI => off p hp (List.mem_singleton.mp hI), hm⟩
      rcases List.mem_append.mp hp with hp | hp
      · rw [hown p hp]; exact N' _ (List.mem_cons_self ..)
      · exact N' p (List.mem_cons_of_mem _ hp)
    cases f with
    | ret v => exact .ret p
    | brk => exact .brk p
    | next => exact .next (fin p)
    | cont => exact .cont (fin p)
  · rintro h' tk m' news' F' N' _ hJ
    exact done m' news' h' tk hJ F' N'

abbrev Inv := (Str → Option Value) → List (Addr × Obj) → Nat → (Str → Option Value) → List (Addr × Obj) → Prop

theorem iter_str {y : PySem.Str} {t : Tok} {m₀ : Str → Option Value} {news : List (Addr × Obj)} (J : Inv)
    (hh : A.handled = none) (F : Fr h₀ env.locals s.heap m₀) (N : News h₀ env.locals s.heap news) (hj : J m₀ news 0 m₀ news)
    (turn : ∀ i c u m₁ news₁ h tk I oI, y.cps.toList[i]? = some c → J m₀ news i m₁ news₁ → (∀ p ∈ news₁, p.1 ≠ I) → Fr h₀ env.locals h (fun z => if z = x then some (.str ⟨#[c]⟩ u) else m₁ z) → News h₀ env.locals h ((I, oI) :: news₁) →
      wpAny (model prog w) A (execs body env) (TPost h₀ env.locals (J m₀ news (i + 1)) I oI { s with heap := h, toks := tk } Q) E { s with heap := h, toks := tk })
    (done : ∀ m₁ news₁ h tk, J m₀ news y.cps.toList.length m₁ news₁ → Fr h₀ env.locals h m₁ → News h₀ env.locals h news₁ → Q .next { s with heap := h, toks := tk }) :
    wpAny (model prog w) A (pyIter (.str y t)) (fun it s₂ => LoopAtV prog w A h₀ env x body Q E it s₂) E s := by
  have turn' : ∀ i v m₁ news₁ h tk I oI, i < y.cps.size → SignAt y i v → J m₀ news i m₁ news₁ → (∀ p ∈ news₁, p.1 ≠ I) → Fr h₀ env.locals h (fun z => if z = x then some v else m₁ z) → News h₀ env.locals h ((I, oI) :: news₁) →
      wpAny (model prog w) A (execs body env) (TPost h₀ env.locals (J m₀ news (i + 1)) I oI { s with heap := h, toks := tk } Q) E { s with heap := h, toks := tk } := by
    rintro i v m₁ news₁ h tk I oI _ ⟨c, u, hc, rfl⟩ hJ off F' N'
    exact turn i c u m₁ news₁ h tk I oI (by simpa using hc) hJ off F' N'
  have done' : ∀ m₁ news₁ h tk, J m₀ news y.cps.size m₁ news₁ → Fr h₀ env.locals h m₁ → News h₀ env.locals h news₁ → Q .next { s with heap := h, toks := tk } := by simpa using done
  cases ha : y.cps.all (· < 128)
  · refine wpAny_pyIter_wide ha ?_
    exact loop_of_walk (J m₀ news) (Walks.strWide hh _ y t) (fun i h st => by obtain ⟨o, e, _⟩ := st; exact ⟨o, e⟩) rfl ⟨_, Heap.get?_push_size _ rfl, rfl, rfl⟩ F N hj turn' done'
  · refine wpAny_pyIter_ascii ha ?_
    exact loop_of_walk (J m₀ news) (Walks.strAscii hh _ y t) (fun i h st => by obtain ⟨o, e, _⟩ := st; exact ⟨o, e⟩) rfl ⟨_, Heap.get?_push_size _ rfl, rfl, rfl⟩ F N hj turn' done'

/-- a goal that the walk leaves alone -/
def Stop (P : Prop) : Prop := P
theorem stop_For {m : Str → Option Value} {px pos : Pos} {iter : Expr} (_F : Fr h₀ env.locals s.heap m) (hx : env.kindOf x = some .local)
    (hp : (env.scope.kind == .class || (env.scope.kind == .module && env.locals != env.globals)) = false)
    (h : wpAny (model prog w) A (eval iter env) (fun xv s₁ => Stop (wpAny (model prog w) A (pyIter xv) (fun it s₂ => LoopAtV prog w A h₀ env x body Q E it s₂) E s₁)) E s)
    (hs : ∀ x, foldedSetIterable iter env x = pure x := by intro _; rfl)
    (hE : PassesOwn (model prog w) A env E := by passes_own) :
    wpAny (model prog w) A (exec (.For (.Name x px) iter body [] pos) env) Q E s := For_invVF _F hx hp h hs
end
end Mine

end
section
open PySem PySem.W PyProof.Rows PySem.Spec PySem.Calls
namespace Mine
abbrev tx (l : List Nat) : PySem.Str := ⟨l.toArray⟩
theorem tx_len (l : List Nat) : (tx l).length = l.length := by simp [PySem.Str.length]
theorem tx_append (a b : List Nat) : tx a ++ tx b = tx (a ++ b) := by
  show PySem.Str.append _ _ = _
  simp [PySem.Str.append, tx]
theorem tx_cps (x : PySem.Str) : x = tx x.cps.toList := by simp [tx]
theorem tx_inj {a b : List Nat} (h : tx a = tx b) : a = b := by
  have : (tx a).cps.toList = (tx b).cps.toList := by rw [h]
  simpa using this
theorem map_self (m : Str → Option Value) (a : Str) : m = fun y => if y = a then m a else m y := by
  funext y
  by_cases h : y = a
  · subst h; simp
  · simp [h]
/-- texts with one between each two -/
def glue (sep : List Nat) : List (List Nat) → List Nat
  | [] => []
  | [x] => x
  | x :: r => x ++ sep ++ glue sep r
theorem join_tx (sep : List Nat) : ∀ ls : List (List Nat), Txt.join (tx sep) (ls.map tx) = tx (glue sep ls) := by
  intro ls
  show PySem.Builtin.Str.glued _ _ = _
  rw [PySem.StrLaws.glued_eq_join]
  induction ls with
  | nil => rfl
  | cons x r ih =>
    cases r with
    | nil => rfl
    | cons y r =>
      show tx x ++ tx sep ++ PySem.Str.join (tx sep) ((y :: r).map tx) = _
      rw [ih, tx_append, tx_append]
      rfl
theorem glue_nil : ∀ ls : List (List Nat), glue [] ls = ls.flatten
  | [] => rfl
  | [x] => by simp [glue]
  | x :: y :: r => by
    show x ++ [] ++ glue [] (y :: r) = _
    rw [glue_nil (y :: r)]
    simp
theorem ofString_nil : PySem.Str.ofString "" = tx [] := by decide +kernel
theorem ofString_bs : PySem.Str.ofString "\\" = tx [92] := by decide +kernel
theorem foldl_rep (c : Nat) : ∀ (n : Nat) (acc : Array Nat), ((List.replicate n #[c]).foldl (· ++ ·) acc) = acc ++ (List.replicate n c).toArray := by
  intro n
  induction n with
  | zero => intro acc; simp
  | succ n ih =>
    intro acc
    rw [List.replicate_succ, List.foldl_cons, ih, List.replicate_succ]
    apply Array.toList_inj.mp
    simp
theorem mul_tx (n : Int) (c : Nat) : Txt.mul (tx [c]) n = tx (List.replicate n.toNat c) := by
  unfold Txt.mul
  by_cases h1 : n < 1
  · rw [if_pos h1, show n.toNat = 0 by omega]
    rfl
  · rw [if_neg h1]
    by_cases h2 : n = 1
    · subst h2; rfl
    · rw [if_neg (by simp [h2, PySem.Str.length])]
      have := foldl_rep c n.toNat #[]
      show (⟨_⟩ : PySem.Str) = ⟨_⟩
      rw [this]
      simp
section
variable {prog : Program} {w : World} {A : Around} {E : Value → Shared → Prop} {s : Shared} {Q : Value → Shared → Prop}
theorem mul_rule {n : Int} {t u : Tok} (hn : n ≤ 1000000) (hlo : -(2 ^ 63 : Int) ≤ n) (h : ∀ t' k, Q (.str (tx (List.replicate n.toNat 92)) t') { s with toks := k }) :
    wpAny (model prog w) A (binaryOp .Mult (.str (PySem.Str.ofString "\\") t) (.int n u)) Q E s := by
  rw [ofString_bs]
  refine SB.mul (mulOk_of 1 1000000 (by decide) hn hlo (by decide) (by decide)) fun t' k => ?_
  rw [mul_tx]
  exact h t' k
theorem add_rule {a b : PySem.Str} {t u : Tok} (hsz : a.cps.size + b.cps.size ≤ sizeLine) (h : ∀ t' k, Q (.str (tx (a.cps.toList ++ b.cps.toList)) t') { s with toks := k }) :
    wpAny (model prog w) A (binaryOp .Add (.str a t) (.str b u)) Q E s := by
  have e : a ++ b = tx (a.cps.toList ++ b.cps.toList) := by
    rw [← tx_append, ← tx_cps, ← tx_cps]
  refine PyProof.Rows.add_str (fun t' tk => ?_) hsz
  rw [e]; exact h _ _
theorem iadd_rule {a b : PySem.Str} {t u : Tok} (hsz : a.cps.size + b.cps.size ≤ sizeLine) (h : ∀ t' k, Q (.str (tx (a.cps.toList ++ b.cps.toList)) t') { s with toks := k }) :
    wpAny (model prog w) A (inplaceOp .Add (.str a t) (.str b u)) Q E s := by
  have e : a ++ b = tx (a.cps.toList ++ b.cps.toList) := by
    rw [← tx_append, ← tx_cps, ← tx_cps]
  refine PyProof.Rows.iadd_str (fun t' tk => ?_) hsz
  rw [e]; exact h _ _
theorem join_rule {D : Addr} {items : Array Value} {t : Tok} {ls : List (List Nat)} (hl : s.heap.IsList D items) (hi : StrsAre items.toList (ls.map tx)) (hok : (ls.map (·.length)).sum ≤ 16777216)
    (h : ∀ t' k, Q (.str (tx ls.flatten) t') { s with toks := k }) : wpAny (model prog w) A (call (.builtin "str.join") [.str (PySem.Str.ofString "") t, .ref D]) Q E s := by
  rw [ofString_nil]
  refine join_list hl hi ?_ fun t' k => ?_
  · rw [List.map_map]
    have : (ls.map ((·.length) ∘ tx)) = ls.map (·.length) := by
      apply List.map_congr_left; intro l _; exact tx_len l
    rw [this]
    simpa [PySem.Str.length] using hok
  · rw [join_tx, glue_nil]
    exact h t' k
end

theorem map_over {m : Str → Option Value} {a : Str} {v v0 : Option Value} : (fun z => if z = a then v else (fun y => if y = a then v0 else m y) z) = fun y => if y = a then v else m y := by
  funext z
  by_cases h : z = a <;> simp [h]
theorem map_over' {m : Str → Option Value} {a : Str} {v v0 : Option Value} : (fun z => if z = a then v else if z = a then v0 else m z) = fun y => if y = a then v else m y := map_over
theorem strs_snoc {y : PySem.Str} {t : Tok} : ∀ {vs : List Value} {ys : List PySem.Str}, StrsAre vs ys → StrsAre (vs ++ [.str y t]) (ys ++ [y])
  | _, _, .nil => .cons y t .nil
  | _, _, .cons z u r => .cons z u (strs_snoc r)
theorem listOf_snoc (ys : List Value) (v : Value) : W.listOf (ys.toArray.push v) (ys.length + 1) = W.listOf (ys ++ [v]).toArray (ys ++ [v]).length := by simp
/-- a loop that puts one text a turn at the end of a list that was empty -/
def InvApp (x : Str) (g : Nat → List Nat) (l : List Nat) : Inv := fun m₀ nw₀ i m nw =>
  ∃ v0 ys D rest, m = (fun y => if y = x then v0 else m₀ y) ∧ nw₀ = (D, W.listOf #[] 0) :: rest ∧ nw = (D, W.listOf ys.toArray ys.length) :: rest ∧ StrsAre ys (((l.take i).map g).map tx)
theorem app_end {h₀ h' : Heap} {L : Addr} {m₀ : Str → Option Value} {x : Str} {g : Nat → List Nat} {l : List Nat} {i c : Nat} {v v0 : Option Value} {I D : Addr} {oI : Obj} {ys : List Value} {y : PySem.Str} {t : Tok} {rest : List (Addr × Obj)} {s₁ : Shared} {tk : Nat} {Q : Flow → Shared → Prop}
    (F : Fr h₀ L h' (fun z => if z = x then v else (fun y => if y = x then v0 else m₀ y) z)) (N : News h₀ L h' ((I, oI) :: (D, W.listOf (ys.toArray.push (.str y t)) (ys.length + 1)) :: rest)) (hI : @Ne Nat I D) (off : ∀ p ∈ rest, p.1 ≠ I)
    (hys : StrsAre ys (((l.take i).map g).map tx)) (hc : l[i]? = some c) (e : y = tx (g c)) :
    TPost h₀ L (InvApp x g l m₀ ((D, W.listOf #[] 0) :: rest) (i + 1)) I oI s₁ Q .next { s₁ with heap := h', toks := tk } := by
  rw [map_over] at F
  rw [listOf_snoc] at N
  refine TPost.next (TEnd.mk' F N (fun p hp => hp) (fun p hp => ?_) ⟨v, _, D, rest, rfl, rfl, rfl, ?_⟩)
  · rcases List.mem_cons.mp hp with rfl | hp
    · exact Ne.symm hI
    · exact off p hp
  · rw [List.take_add_one, hc, List.map_append, List.map_append]
    subst e
    exact strs_snoc hys

theorem mod_val {prog : Program} {w : World} {A : Around} {E : Value → Shared → Prop} {s : Shared} {Q : Value → Shared → Prop} {a b k : Int} {t u : Tok} (e : a.fmod b = k) (hb : b ≠ 0) (h : ∀ t' tk, Q (.int k t') { s with toks := tk }) :
    wpAny (model prog w) A (binaryOp .Mod (.int a t) (.int b u)) Q E s := by
  subst e
  exact mod_int' hb (h _ _)
end Mine

end
section
open PySem PySem.W PyProof.Rows PySem.Spec PySem.Calls
namespace Mine
/-- two lists, item by item -/
inductive All2 {α β : Type} (R : α → β → Prop) : List α → List β → Prop
  | nil : All2 R [] []
  | cons {a b l r} : R a b → All2 R l r → All2 R (a :: l) (b :: r)
theorem All2.snoc {α β : Type} {R : α → β → Prop} {a : α} {b : β} (h : R a b) : ∀ {l r}, All2 R l r → All2 R (l ++ [a]) (r ++ [b])
  | _, _, .nil => .cons h .nil
  | _, _, .cons h' t => .cons h' (t.snoc h)
theorem All2.len {α β : Type} {R : α → β → Prop} : ∀ {l : List α} {r : List β}, All2 R l r → r.length = l.length
  | _, _, .nil => rfl
  | _, _, .cons _ t => by simp [t.len]
theorem All2.strs {α : Type} {g : α → List Nat} : ∀ {l : List α} {r : List Value}, All2 (fun a y => ∃ t, y = .str (tx (g a)) t) l r → StrsAre r ((l.map g).map tx)
  | _, _, .nil => .nil
  | _, _, .cons ⟨t, h⟩ r => by subst h; exact .cons _ t r.strs
theorem All2.ints {α : Type} {g : α → Int} : ∀ {l : List α} {r : List Value}, All2 (fun a y => ∃ t, y = .int (g a) t) l r → IntsAre r (l.map g)
  | _, _, .nil => .nil
  | _, _, .cons ⟨t, h⟩ r => by subst h; exact .cons _ t r.ints

/-- an element's end: the ledger stands as it stood -/
def CEnd (h₀ : Heap) (L : Addr) (m : Str → Option Value) (s₁ : Shared) (news : List (Addr × Obj)) (R : Value → Prop) (y : Value) (s₂ : Shared) : Prop :=
  ∃ h' tk, s₂ = { s₁ with heap := h', toks := tk } ∧ Fr h₀ L h' m ∧ News h₀ L h' news ∧ R y
theorem CEnd.mk' {h₀ h' : Heap} {L : Addr} {m : Str → Option Value} {s₁ : Shared} {news all : List (Addr × Obj)} {R : Value → Prop} {y : Value} {tk : Nat} (F : Fr h₀ L h' m) (N : News h₀ L h' all) (sub : ∀ p ∈ news, p ∈ all) (r : R y) :
    CEnd h₀ L m s₁ news R y { s₁ with heap := h', toks := tk } := ⟨h', tk, rfl, F, fun p hp => N p (sub p hp), r⟩

section
variable {prog : Program} {w : World} {A : Around} {E : Value → Shared → Prop} {s : Shared} {h₀ : Heap} {L : Addr} {m : Str → Option Value} {env : Env}

abbrev Turn {α : Type} (prog : Program) (w : World) (A : Around) (h₀ : Heap) (L : Addr) (m : Str → Option Value) (env : Env) (elt : Expr) (x : Str) (scope : Scope) (cl : List (Str × Addr)) (s : Shared) (its : List α) (P R : α → Value → Prop) (news : List (Addr × Obj)) : Prop :=
  ∀ (a : α) (v : Value) (I : Addr) (oI : Obj) (C : Addr) (oC : Obj) (D : Addr) (m₂ : Str → Option Value) (ys : List Value) (h : Heap) (tk : Nat) (E' : Value → Shared → Prop), a ∈ its → P a v → LCg.NsObj oC m₂ → m₂ x = some v → Fr h₀ L h m → News h₀ L h ((I, oI) :: (C, oC) :: (D, LCg.lst ys) :: news) → LCg.Off3 I C D news → ((@Ne Nat I C) ∧ (@Ne Nat I D) ∧ (@Ne Nat C D)) →
    wpAny (model prog w) A (eval elt (compEnvC scope cl C env)) (CEnd h₀ L m { s with heap := h, toks := tk } ((I, oI) :: (C, oC) :: (D, LCg.lst ys) :: news) (R a)) E' { s with heap := h, toks := tk }

theorem comp_rest {α : Type} {elt : Expr} {x : Str} {scope : Scope} {cl : List (Str × Addr)} {S : List (Addr × Obj) → Prop} {P' : Nat → Value → Prop} {Fin : List Value → List (Addr × Obj) → Prop} {news : List (Addr × Obj)} {its : List α} {P R : α → Value → Prop}
    (hP : ∀ i v, P' i v → ∃ a, its[i]? = some a ∧ P a v) (hS : S news) (turn : Turn prog w A h₀ L m env elt x scope cl s its P R news) (fin : ∀ ys, All2 R its ys → Fin ys news) : LCg.CompRest prog w A h₀ L m env elt x scope cl s S P' Fin its.length 0 [] news := by
  have key : ∀ (j i : Nat) (ys : List Value), i + j = its.length → All2 R (its.take i) ys → LCg.CompRest prog w A h₀ L m env elt x scope cl s S P' Fin j i ys news := by
    intro j
    induction j with
    | zero =>
      intro i ys hi hy
      have e : i = its.length := by omega
      subst e
      rw [List.take_length] at hy
      exact LCg.CompRest.zero (fin ys hy)
    | succ j ih =>
      intro i ys hi hy
      refine LCg.CompRest.succ ?_
      intro v I oI C oC D m₂ h tk E' hv hC hx F N off ne
      obtain ⟨a, ha, hv'⟩ := hP i v hv
      refine wpAny_mono (turn a v I oI C oC D m₂ ys h tk E' (List.mem_of_getElem? ha) hv' hC hx F N off ne) (fun y s₂ hq => ?_) fun _ _ e => e
      obtain ⟨h', tk', e, F', N', hr⟩ := hq
      refine ⟨h', tk', news, e, F', N', off, hS, ih (i + 1) _ (by omega) ?_⟩
      rw [List.take_add_one, ha]
      exact hy.snoc hr
  exact key _ 0 [] (by omega) .nil

/-- what an iterator must bring so that the comprehension runs -/
def CompAt (prog : Program) (w : World) (A : Around) (h₀ : Heap) (L : Addr) (m : Str → Option Value) (env : Env) (elt : Expr) (x : Str) (scope : Scope) (cl : List (Str × Addr)) (Q : Value → Shared → Prop) (it : Value) (s₂ : Shared) : Prop :=
  ∃ (I : Addr) (fp : List Addr) (n : Nat) (P : Nat → Value → Prop) (St : Nat → Heap → Prop) (S : List (Addr × Obj) → Prop) (news : List (Addr × Obj)), it = .ref I ∧ Walks prog w A I fp [I] n P St ∧ n ≤ sizeLine ∧ (∀ i h, St i h → ∃ o, h.get? I = some o) ∧
    (∀ i h h' o nw, St i h → h.get? I = some o → h'.get? I = some o → (∀ b o, h₀.get? b = some o → h'.get? b = some o) → News h₀ L h' nw → S nw → St i h') ∧ St 0 s₂.heap ∧ (∀ b ∈ fp, b < s₂.heap.objs.size) ∧ Fr h₀ L s₂.heap m ∧ News h₀ L s₂.heap news ∧ L ≠ I ∧ h₀.get? I = none ∧ (∀ p ∈ news, p.1 ≠ I) ∧ S news ∧
    LCg.CompRest prog w A h₀ L m env elt x scope cl s₂ S P (LCg.FinE h₀ L m s₂ Q) n 0 [] news

theorem comp_stop {elt iter : Expr} {x : Str} {px : Pos} {scope : Scope} {cl : List (Str × Addr)} {pos : Pos} {Q : Value → Shared → Prop} (_F₀ : Fr h₀ L s.heap m)
    (hclos : closureFor scope env = pure cl) (hcell : ∀ y ∈ scope.names, y.2 ≠ .cell) (hkind : scope.kind = .function)
    (hnames : ∀ y ∈ scope.names, y.2 = .local → scope.names.lookup y.1 = some .local) (hx : scope.names.lookup x = some .local)
    (h : wpAny (model prog w) A (eval iter env) (fun xv s₁ => Stop (wpAny (model prog w) A (pyIter xv) (fun it s₂ => CompAt prog w A h₀ L m env elt x scope cl Q it s₂) E s₁)) E s)
    (hs : ∀ x, foldedSetIterable iter env x = pure x := by intro _; rfl) :
    wpAny (model prog w) A (eval (.ListComp elt [⟨.Name x px, iter, [], 0⟩] scope pos) env) Q E s := by
  rw [eval_ListComp]
  refine wpAny_comprehension_free (use := none) rfl hs hclos hkind hnames (wpAny_mono h (fun xv s₁ h₁ => wpAny_mono h₁ (fun it s₂ h₂ => ?_) fun _ _ e => e) fun _ _ e => e)
  obtain ⟨I, fp, n, P, St, S, news, rfl, W, hsz, hIo, hSt, hst, hfp, F, N, hIL, hI₀, off, hS, R⟩ := h₂
  refine LCg.block_U W hsz hIo hSt hcell hkind hx hst hfp F N hIL hI₀ off hS R ?_
  intro D C h tk m' ys news' F' N' o1 hn hC₀ hD₀ hCL hDL hCD offC fin
  refine ⟨m', hn, fun h'' hs'' => fin D h'' tk (F'.change hs'' hCL hC₀) (fun p hp => ?_) o1⟩
  refine ⟨hs''.extBut _ _ ?_ (N' p hp).1, (N' p hp).2⟩
  rcases List.mem_cons.mp hp with rfl | hp
  · exact Ne.symm hCD
  · exact offC p hp

theorem comp_walk {α : Type} {I : Addr} {o : Obj} {elt : Expr} {x : Str} {scope : Scope} {cl : List (Str × Addr)} {Q : Value → Shared → Prop} {P' : Nat → Value → Prop} {St : Nat → Heap → Prop} {news : List (Addr × Obj)} {its : List α} {P R : α → Value → Prop}
    (W : Walks prog w A I [I] [I] its.length P' St) (hI : I = s.heap.objs.size) (hsz : its.length ≤ sizeLine) (alive : ∀ i h, St i h → ∃ o, h.get? I = some o)
    (hSt : ∀ i h h' o, St i h → h.get? I = some o → h'.get? I = some o → St i h') (hst : St 0 (s.heap.push o)) (F : Fr h₀ L s.heap m) (N : News h₀ L s.heap news)
    (hP : ∀ i v, P' i v → ∃ a, its[i]? = some a ∧ P a v) (turn : Turn prog w A h₀ L m env elt x scope cl s its P R news)
    (fin : ∀ ys D h tk, All2 R its ys → Fr h₀ L h m → News h₀ L h ((D, LCg.lst ys) :: news) → LCg.Off1 D news → Q (.ref D) { s with heap := h, toks := tk }) :
    CompAt prog w A h₀ L m env elt x scope cl Q (.ref I) { s with heap := s.heap.push o } := by
  subst hI
  refine ⟨_, _, its.length, _, _, fun _ => True, news, rfl, W, hsz, alive, fun i h h' o nw a b c _ _ _ => hSt i h h' o a b c, hst, ?_, F.push _, (fun p hp => ⟨Heap.get?_push_of_some _ (N p hp).1, (N p hp).2⟩), Nat.ne_of_lt F.ns.lt, next_is_new F, (fun p hp => Nat.ne_of_lt (Heap.lt_size (N p hp).1)), trivial, ?_⟩
  · intro b hb
    rw [List.mem_singleton.mp hb]
    show s.heap.objs.size < (s.heap.push _).objs.size
    rw [Heap.size_push]; exact Nat.lt_succ_self _
  · refine comp_rest (R := R) hP trivial ?_ ?_
    · intro a v I oI C oC D m₂ ys h tk E' ha hv hC hx F N off ne
      exact turn a v I oI C oC D m₂ ys h tk E' ha hv hC hx F N off ne
    · intro ys hy D h tk F' N' o1
      exact fin ys D h tk hy F' N' o1

theorem comp_str {y : PySem.Str} {t : Tok} {elt : Expr} {x : Str} {scope : Scope} {cl : List (Str × Addr)} {Q : Value → Shared → Prop} {news : List (Addr × Obj)} {R : Nat → Value → Prop}
    (hh : A.handled = none) (F : Fr h₀ L s.heap m) (N : News h₀ L s.heap news) (hsz : y.cps.size ≤ sizeLine)
    (turn : Turn prog w A h₀ L m env elt x scope cl s y.cps.toList (fun c v => ∃ u, v = .str ⟨#[c]⟩ u) R news)
    (fin : ∀ ys D h tk, All2 R y.cps.toList ys → Fr h₀ L h m → News h₀ L h ((D, LCg.lst ys) :: news) → LCg.Off1 D news → Q (.ref D) { s with heap := h, toks := tk }) :
    wpAny (model prog w) A (pyIter (.str y t)) (fun it s₂ => CompAt prog w A h₀ L m env elt x scope cl Q it s₂) E s := by
  have hP : ∀ i v, SignAt y i v → ∃ a, y.cps.toList[i]? = some a ∧ ∃ u, v = .str ⟨#[a]⟩ u := by
    rintro i v ⟨c, u, hc, rfl⟩
    exact ⟨c, by simpa using hc, u, rfl⟩
  cases ha : y.cps.all (· < 128)
  · refine wpAny_pyIter_wide ha ?_
    have W := Walks.strWide (prog := prog) (w := w) hh s.heap.objs.size y t
    rw [show y.cps.size = y.cps.toList.length from Array.length_toList.symm] at W
    refine comp_walk W rfl (by simpa using hsz) (fun i h st => by obtain ⟨o, e, _⟩ := st; exact ⟨o, e⟩) ?_ ⟨_, Heap.get?_push_size _ rfl, rfl, rfl⟩ F N hP turn fin
    rintro i h h' o ⟨o', e, r⟩ e1 e2
    rw [e1] at e; cases e
    exact ⟨o, e2, r⟩
  · refine wpAny_pyIter_ascii ha ?_
    have W := Walks.strAscii (prog := prog) (w := w) hh s.heap.objs.size y t
    rw [show y.cps.size = y.cps.toList.length from Array.length_toList.symm] at W
    refine comp_walk W rfl (by simpa using hsz) (fun i h st => by obtain ⟨o, e, _⟩ := st; exact ⟨o, e⟩) ?_ ⟨_, Heap.get?_push_size _ rfl, rfl, rfl⟩ F N hP turn fin
    rintro i h h' o ⟨o', e, r⟩ e1 e2
    rw [e1] at e; cases e
    exact ⟨o, e2, r⟩

theorem comp_bytes {b : Array UInt8} {t : Tok} {elt : Expr} {x : Str} {scope : Scope} {cl : List (Str × Addr)} {Q : Value → Shared → Prop} {news : List (Addr × Obj)} {R : UInt8 → Value → Prop}
    (hh : A.handled = none) (F : Fr h₀ L s.heap m) (N : News h₀ L s.heap news) (hsz : b.size ≤ sizeLine)
    (turn : Turn prog w A h₀ L m env elt x scope cl s b.toList (fun c v => ∃ u, v = .int (c.toNat : Int) u) R news)
    (fin : ∀ ys D h tk, All2 R b.toList ys → Fr h₀ L h m → News h₀ L h ((D, LCg.lst ys) :: news) → LCg.Off1 D news → Q (.ref D) { s with heap := h, toks := tk }) :
    wpAny (model prog w) A (pyIter (.bytes b t)) (fun it s₂ => CompAt prog w A h₀ L m env elt x scope cl Q it s₂) E s := by
  refine KBw.pyIter_bytes ?_
  have W := KBw.walks (prog := prog) (w := w) hh s.heap.objs.size b t
  rw [show b.size = b.toList.length from Array.length_toList.symm] at W
  refine comp_walk W rfl (by simpa using hsz) (fun i h st => by obtain ⟨o, e, _⟩ := st; exact ⟨o, e⟩) ?_ ⟨_, Heap.get?_push_size _ rfl, rfl, rfl⟩ F N ?_ turn fin
  · rintro i h h' o ⟨o', e, r⟩ e1 e2
    rw [e1] at e; cases e
    exact ⟨o, e2, r⟩
  · rintro i v ⟨c, u, hc, rfl⟩
    exact ⟨c, by simpa using hc, u, rfl⟩

/-- over a list that stands in the ledger or below, and is not changed -/
theorem comp_list {ax : Addr} {vs : List Value} {elt : Expr} {x : Str} {scope : Scope} {cl : List (Str × Addr)} {Q : Value → Shared → Prop} {news : List (Addr × Obj)} {R : Value → Value → Prop}
    (hh : A.handled = none) (F : Fr h₀ L s.heap m) (N : News h₀ L s.heap news) (S : LCg.SrcAt h₀ ax vs.toArray news) (hsz : vs.length ≤ sizeLine)
    (turn : Turn prog w A h₀ L m env elt x scope cl s vs (fun a v => v = a) R news)
    (fin : ∀ ys D h tk, All2 R vs ys → Fr h₀ L h m → News h₀ L h ((D, LCg.lst ys) :: news) → LCg.Off1 D news → Q (.ref D) { s with heap := h, toks := tk }) :
    wpAny (model prog w) A (pyIter (.ref ax)) (fun it s₂ => CompAt prog w A h₀ L m env elt x scope cl Q it s₂) E s := by
  have hl := S.list F.keep N
  have hlt : ax < s.heap.objs.size := by obtain ⟨_, e, _⟩ := hl; exact Heap.lt_size e
  refine wpAny_pyIter_list hl ?_
  have W := Walks.list (prog := prog) (w := w) hh s.heap.objs.size ax (Nat.ne_of_lt hlt) vs.toArray
  have e : vs.toArray.size = vs.length := by simp
  rw [e] at W
  refine ⟨_, _, vs.length, _, _, LCg.SrcAt h₀ ax vs.toArray, news, rfl, W, hsz, (fun i h st => by obtain ⟨o, e, _⟩ := st.1; exact ⟨o, e⟩), LCg.list_st, ⟨⟨_, Heap.get?_push_size _ rfl, rfl, rfl⟩, hl.push _⟩, ?_, F.push _, (fun p hp => ⟨Heap.get?_push_of_some _ (N p hp).1, (N p hp).2⟩), Nat.ne_of_lt F.ns.lt, next_is_new F, (fun p hp => Nat.ne_of_lt (Heap.lt_size (N p hp).1)), S, ?_⟩
  · intro b hb
    show b < (s.heap.push _).objs.size
    rw [Heap.size_push]
    rcases List.mem_cons.mp hb with rfl | hb
    · exact Nat.lt_succ_self _
    · rw [List.mem_singleton.mp hb]; exact Nat.lt_succ_of_lt hlt
  · refine comp_rest (P := fun a v => v = a) (R := R) (fun i v hv => ⟨v, by simpa using hv, rfl⟩) S ?_ ?_
    · intro a v I oI C oC D m₂ ys h tk E' ha hv hC hx F N off ne
      exact turn a v I oI C oC D m₂ ys h tk E' ha hv hC hx F N off ne
    · intro ys hy D h tk F' N' o1
      exact fin ys D h tk hy F' N' o1

theorem comp_ints {ax : Addr} {vs : List Value} {ns : List Int} {elt : Expr} {x : Str} {scope : Scope} {cl : List (Str × Addr)} {Q : Value → Shared → Prop} {news : List (Addr × Obj)} {R : Int → Value → Prop}
    (hh : A.handled = none) (F : Fr h₀ L s.heap m) (N : News h₀ L s.heap news) (S : LCg.SrcAt h₀ ax vs.toArray news) (hi : IntsAre vs ns) (hsz : ns.length ≤ sizeLine)
    (turn : Turn prog w A h₀ L m env elt x scope cl s ns (fun k v => ∃ u, v = .int k u) R news)
    (fin : ∀ ys D h tk, All2 R ns ys → Fr h₀ L h m → News h₀ L h ((D, LCg.lst ys) :: news) → LCg.Off1 D news → Q (.ref D) { s with heap := h, toks := tk }) :
    wpAny (model prog w) A (pyIter (.ref ax)) (fun it s₂ => CompAt prog w A h₀ L m env elt x scope cl Q it s₂) E s := by
  refine comp_list (R := fun a y => ∃ k u, a = .int k u ∧ R k y) hh F N S (by rw [hi.length]; exact hsz) ?_ ?_
  · intro a v I oI C oC D m₂ ys h tk E' ha hv hC hx F N off ne
    obtain ⟨i, hai⟩ := List.getElem?_of_mem ha
    obtain ⟨k, u, e, hk⟩ := IntsAre.at hi i a hai
    refine wpAny_mono (turn k v I oI C oC D m₂ ys h tk E' (List.mem_of_getElem? hk) ⟨u, by rw [hv, e]⟩ hC hx F N off ne) (fun y s₂ hq => ?_) fun _ _ e => e
    obtain ⟨h', tk', e', F', N', hr⟩ := hq
    exact ⟨h', tk', e', F', N', k, u, e, hr⟩
  · intro ys D h tk hy F' N' o1
    refine fin ys D h tk ?_ F' N' o1
    clear turn fin F' N' S F N hsz
    induction hi generalizing ys with
    | nil => cases hy; exact .nil
    | cons k u _ ih =>
      cases hy with
      | cons h1 h2 =>
        obtain ⟨k', u', e, hr⟩ := h1
        cases e
        exact .cons hr (ih _ h2)

theorem comp_strs {ax : Addr} {vs : List Value} {ns : List PySem.Str} {elt : Expr} {x : Str} {scope : Scope} {cl : List (Str × Addr)} {Q : Value → Shared → Prop} {news : List (Addr × Obj)} {R : PySem.Str → Value → Prop}
    (hh : A.handled = none) (F : Fr h₀ L s.heap m) (N : News h₀ L s.heap news) (S : LCg.SrcAt h₀ ax vs.toArray news) (hi : StrsAre vs ns) (hsz : ns.length ≤ sizeLine)
    (turn : Turn prog w A h₀ L m env elt x scope cl s ns (fun k v => ∃ u, v = .str k u) R news)
    (fin : ∀ ys D h tk, All2 R ns ys → Fr h₀ L h m → News h₀ L h ((D, LCg.lst ys) :: news) → LCg.Off1 D news → Q (.ref D) { s with heap := h, toks := tk }) :
    wpAny (model prog w) A (pyIter (.ref ax)) (fun it s₂ => CompAt prog w A h₀ L m env elt x scope cl Q it s₂) E s := by
  refine comp_list (R := fun a y => ∃ k u, a = .str k u ∧ R k y) hh F N S (by rw [hi.length]; exact hsz) ?_ ?_
  · intro a v I oI C oC D m₂ ys h tk E' ha hv hC hx F N off ne
    obtain ⟨i, hai⟩ := List.getElem?_of_mem ha
    obtain ⟨k, u, e, hk⟩ := StrsAre.item hi i a hai
    refine wpAny_mono (turn k v I oI C oC D m₂ ys h tk E' (List.mem_of_getElem? hk) ⟨u, by rw [hv, e]⟩ hC hx F N off ne) (fun y s₂ hq => ?_) fun _ _ e => e
    obtain ⟨h', tk', e', F', N', hr⟩ := hq
    exact ⟨h', tk', e', F', N', k, u, e, hr⟩
  · intro ys D h tk hy F' N' o1
    refine fin ys D h tk ?_ F' N' o1
    clear turn fin F' N' S F N hsz
    induction hi generalizing ys with
    | nil => cases hy; exact .nil
    | cons k u _ ih =>
      cases hy with
      | cons h1 h2 =>
        obtain ⟨k', u', e, hr⟩ := h1
        cases e
        exact .cons hr (ih _ h2)
end
section
variable {prog : Program} {w : World} {A : Around} {E : Value → Shared → Prop} {s : Shared} {env : Env} {h₀ : Heap} {x : Str} {body : List Stmt} {Q : Flow → Shared → Prop}
theorem iter_range {r : Addr} {a b : Int} {t u v : Tok} {n : Nat} {m₀ : Str → Option Value} {news : List (Addr × Obj)} (J : Inv)
    (hh : A.handled = none) (hr : IsRange s.heap r a b 1 t u v) (hsm : Builtin.Range.small a b 1 = true) (hn : Builtin.Range.rangeSize a b 1 = ((n : Nat) : Int)) (F : Fr h₀ env.locals s.heap m₀) (N : News h₀ env.locals s.heap news) (hj : J m₀ news 0 m₀ news)
    (turn : ∀ i t' m₁ news₁ h tk I oI, i < n → J m₀ news i m₁ news₁ → (∀ p ∈ news₁, p.1 ≠ I) → Fr h₀ env.locals h (fun z => if z = x then some (.int (a + (i : Int)) t') else m₁ z) → News h₀ env.locals h ((I, oI) :: news₁) →
      wpAny (model prog w) A (execs body env) (TPost h₀ env.locals (J m₀ news (i + 1)) I oI { s with heap := h, toks := tk } Q) E { s with heap := h, toks := tk })
    (done : ∀ m₁ news₁ h tk, J m₀ news n m₁ news₁ → Fr h₀ env.locals h m₁ → News h₀ env.locals h news₁ → Q .next { s with heap := h, toks := tk }) :
    wpAny (model prog w) A (pyIter (.ref r)) (fun it s₂ => LoopAtV prog w A h₀ env x body Q E it s₂) E s := by
  refine wpAny_pyIter_range hr hsm ?_
  refine loop_of_walk (J m₀ news) (LCg.range_walks hh a n) (fun i h st => ⟨_, st⟩) rfl (by show IsRangeIter _ _ _ _ _; rw [hn]; simpa using Heap.get?_push_size _ rfl) F N hj ?_ done
  rintro i v m₁ news₁ h tk I oI hi ⟨t', rfl⟩ hJ off F' N'
  exact turn i t' m₁ news₁ h tk I oI hi hJ off F' N'
end

theorem byteArr_nat (l : List Nat) : byteArr (l.map Int.ofNat) = octs l := by
  simp [byteArr, octs]
theorem bytes_rule {prog : Program} {w : World} {A : Around} {E : Value → Shared → Prop} {s : Shared} {h₀ : Heap} {L D : Addr} {m : Str → Option Value} {news : List (Addr × Obj)} {vs : List Value} {l : List Nat} {Q : Value → Shared → Prop}
    (F : Fr h₀ L s.heap m) (N : News h₀ L s.heap news) (hh : A.handled = none) (hl : s.heap.IsList D vs.toArray) (hi : IntsAre vs (l.map Int.ofNat)) (hr : ∀ c ∈ l, c < 256) (hn : l.length ≤ 16777216)
    (h : ∀ h' t' k, Fr h₀ L h' m → News h₀ L h' news → Q (.bytes (octs l) t') { s with heap := h', toks := k }) : wpAny (model prog w) A (call (.type "bytes") [.ref D]) Q E s := by
  refine KBa.make_K F N hh hl hi ?_ (by simpa using hn) fun h' t' k F' N' _ => ?_
  · intro n hn
    obtain ⟨c, hc, rfl⟩ := List.mem_map.mp hn
    have := hr c hc
    exact ⟨Int.natCast_nonneg _, by show ((c : Nat) : Int) < 256; omega⟩
  · rw [byteArr_nat]; exact h h' t' k F' N'

theorem flat_ones {α : Type} (g : α → Nat) : ∀ l : List α, (l.map (fun a => [g a])).flatten = l.map g
  | [] => rfl
  | a :: l => by simp [flat_ones g l]
theorem sum_ones {α : Type} (g : α → Nat) : ∀ l : List α, ((l.map (fun a => [g a])).map (·.length)).sum = l.length
  | [] => rfl
  | a :: l => by simp only [List.map_cons, List.sum_cons, sum_ones g l]; simp; omega
theorem join_ones {prog : Program} {w : World} {A : Around} {E : Value → Shared → Prop} {s : Shared} {α : Type} {g : α → Nat} {l : List α} {D : Addr} {ys : List Value} {t : Tok} {Q : Value → Shared → Prop} (hl : s.heap.IsList D ys.toArray) (hy : All2 (fun a y => ∃ t, y = .str (tx [g a]) t) l ys) (hn : l.length ≤ 16777216)
    (h : ∀ t' k, Q (.str (tx (l.map g)) t') { s with toks := k }) : wpAny (model prog w) A (call (.builtin "str.join") [.str (PySem.Str.ofString "") t, .ref D]) Q E s := by
  refine join_rule (ls := l.map (fun a => [g a])) hl hy.strs (by rw [sum_ones]; exact hn) fun t' k => ?_
  rw [flat_ones]; exact h t' k

theorem comp_tx {prog : Program} {w : World} {A : Around} {E : Value → Shared → Prop} {s : Shared} {h₀ : Heap} {L : Addr} {m : Str → Option Value} {env : Env} {l : List Nat} {t : Tok} {elt : Expr} {x : Str} {scope : Scope} {cl : List (Str × Addr)} {Q : Value → Shared → Prop} {news : List (Addr × Obj)} (R : Nat → Value → Prop)
    (hh : A.handled = none) (F : Fr h₀ L s.heap m) (N : News h₀ L s.heap news) (hsz : l.length ≤ sizeLine)
    (turn : Turn prog w A h₀ L m env elt x scope cl s l (fun c v => ∃ u, v = .str ⟨#[c]⟩ u) R news)
    (fin : ∀ ys D h tk, All2 R l ys → Fr h₀ L h m → News h₀ L h ((D, LCg.lst ys) :: news) → LCg.Off1 D news → Q (.ref D) { s with heap := h, toks := tk }) :
    wpAny (model prog w) A (pyIter (.str (tx l) t)) (fun it s₂ => CompAt prog w A h₀ L m env elt x scope cl Q it s₂) E s :=
  comp_str hh F N (by simpa using hsz) turn fin

theorem sub_val {prog : Program} {w : World} {A : Around} {E : Value → Shared → Prop} {s : Shared} {Q : Value → Shared → Prop} {a b k : Int} {t u : Tok} (e : a - b = k) (h : ∀ t' tk, Q (.int k t') { s with toks := tk }) :
    wpAny (model prog w) A (binaryOp .Sub (.int a t) (.int b u)) Q E s := by
  subst e
  exact sub_int (h _ _)
end Mine

end
section
open PySem PySem.W PyProof.Rows
namespace Mine
def guardC (n c : Nat) : List Nat := if c = 92 then List.replicate (2 ^ n) 92 else if special c then List.replicate (2 ^ n - 1) 92 ++ [c] else [c]
def guardL (n : Nat) (l : List Nat) : List Nat := l.flatMap (guardC n)
theorem guard_zero (l : List Nat) : guardL 0 l = l := by
  induction l with
  | nil => rfl
  | cons c l ih =>
    show guardC 0 c ++ guardL 0 l = _
    rw [ih]
    unfold guardC
    by_cases h : c = 92
    · subst h; rfl
    · rw [if_neg h]
      split <;> rfl
theorem esc_rep (k : Nat) : esc (List.replicate k 92) = List.replicate (2 * k) 92 := by
  induction k with
  | zero => rfl
  | succ k ih =>
    rw [List.replicate_succ, esc_cons, ih]
    have : escC 92 = [92, 92] := by decide
    rw [this, show 2 * (k + 1) = 2 * k + 1 + 1 by omega, List.replicate_succ, List.replicate_succ]
    rfl
theorem guard_step (n : Nat) (l : List Nat) : esc (guardL n l) = guardL (n + 1) l := by
  induction l with
  | nil => rfl
  | cons c l ih =>
    show esc (guardC n c ++ guardL n l) = guardC (n + 1) c ++ guardL (n + 1) l
    rw [esc_append, ih]
    congr 1
    unfold guardC
    by_cases h : c = 92
    · rw [if_pos h, if_pos h, esc_rep]
      congr 1
      rw [Nat.pow_succ]; omega
    · rw [if_neg h, if_neg h]
      cases hs : special c
      · simp only [Bool.false_eq_true, if_false]
        show escC c ++ [] = [c]
        unfold escC; rw [hs]; rfl
      · simp only [if_true]
        rw [esc_append, esc_rep]
        have e : esc [c] = [92, c] := by
          show escC c ++ [] = _
          unfold escC; rw [hs]; rfl
        rw [e]
        have p : 1 ≤ 2 ^ n := Nat.one_le_two_pow
        have q : 2 ^ (n + 1) - 1 = 2 * (2 ^ n - 1) + 1 := by rw [Nat.pow_succ]; omega
        rw [q, List.replicate_succ']
        simp
theorem guardC_len {n c : Nat} (h : n ≤ 3) : (guardC n c).length ≤ 8 := by
  have h8 : 2 ^ n ≤ 8 := Nat.pow_le_pow_right (n := 2) (by decide) h
  unfold guardC
  split
  · simpa using h8
  · split
    · have : 1 ≤ 2 ^ n := Nat.one_le_two_pow
      simp; omega
    · simp
theorem guard_sum {n : Nat} (h : n ≤ 3) (l : List Nat) : ((l.map (guardC n)).map (·.length)).sum ≤ 8 * l.length := by
  induction l with
  | nil => simp
  | cons c l ih =>
    have := guardC_len (c := c) h
    simp only [List.map_cons, List.sum_cons, List.length_cons]
    omega
theorem guard_len {n : Nat} (h : n ≤ 3) (l : List Nat) : (guardL n l).length ≤ 8 * l.length := by
  have := guard_sum h l
  unfold guardL
  rw [List.length_flatMap]
  rw [List.map_map] at this
  exact this
theorem guardC_small {n c : Nat} (h : c < 256) : ∀ d ∈ guardC n c, d < 256 := by
  intro d hd
  unfold guardC at hd
  split at hd
  · have := List.eq_of_mem_replicate hd; omega
  · split at hd
    · rcases List.mem_append.mp hd with hd | hd
      · have := List.eq_of_mem_replicate hd; omega
      · simp at hd; omega
    · simp at hd; omega
theorem guard_small {n : Nat} {l : List Nat} (h : ∀ c ∈ l, c < 256) : ∀ d ∈ guardL n l, d < 256 := by
  intro d hd
  obtain ⟨c, hc, hdc⟩ := List.mem_flatMap.mp hd
  exact guardC_small (h c hc) d hdc
theorem cpsOf_octs {l : List Nat} (h : ∀ c ∈ l, c < 256) : cpsOf (octs l) = l := by
  unfold cpsOf octs
  show (l.map Nat.toUInt8).map UInt8.toNat = l
  rw [List.map_map]
  conv => rhs; rw [← List.map_id l]
  apply List.map_congr_left
  intro c hc
  have := h c hc
  show c.toUInt8.toNat = c
  simp
  omega
end Mine

end
section
open PySem PySem.W PyProof.Rows PySem.Spec PySem.Calls
namespace Mine

theorem esc_fit {b : Array UInt8} (h : 2 * b.size ≤ sizeLine) : (⟨(esc (b.map UInt8.toNat).toList).toArray⟩ : PySem.Str).cps.size ≤ sizeLine := by
  have := esc_len (b.map UInt8.toNat).toList
  simp at this ⊢
  omega
theorem esc_b256 {b : Array UInt8} : ∀ c ∈ (⟨(esc (b.map UInt8.toNat).toList).toArray⟩ : PySem.Str).cps, c < 256 := by
  intro c hc
  refine esc_small (l := (b.map UInt8.toNat).toList) ?_ c (by simpa using hc)
  intro d hd
  have hd' : ∃ a, a ∈ b ∧ a.toNat = d := by simpa using hd
  obtain ⟨e, _, rfl⟩ := hd'
  exact e.toNat_lt
theorem octs_eq {b : Array UInt8} : (⟨(esc (b.map UInt8.toNat).toList).toArray⟩ : PySem.Str).cps.map Nat.toUInt8 = octs (esc (cpsOf b)) := by
  simp [octs, cpsOf]
local macro_rules | `(tactic| walk_at "call builtin:str.translate") => `(tactic| (k_here; (with_reducible show wpAny _ _ (call (Value.builtin "str.translate") [Value.str _ _, Value.ref _]) _ _ _); k_dflt (refine' tr_step ?k1 ?k2 ?k3 ?k4 ?k5 ?k6 ?k7 ?k8 ?_; (case k1 => k_asm); (case k2 => k_asm); (case k3 => k_asm); (case k4 => rfl); (case k5 => decide +kernel); (case k6 => rfl); (case k7 => rfl); (case k8 => first | assumption | (simp only [Array.size_map]; assumption)); k_whole); intro h' tk' t' F' N'))
local macro_rules | `(tactic| walk_at "getMethod str") => `(tactic| (k_here; first | refine gm_translate ?_ | refine gm_encode ?_))
local macro_rules | `(tactic| walk_at "call type:str") => `(tactic| (k_here; (with_reducible show wpAny _ _ (call (Value.type "str") [Value.bytes _ _, Value.str _ _]) _ _ _); refine str_latin1 (by omega) ?_; intro t' k'))
local macro_rules | `(tactic| walk_at "call builtin:str.encode") => `(tactic| (k_here; (with_reducible show wpAny _ _ (call (Value.builtin "str.encode") [Value.str _ _, Value.str _ _]) _ _ _); refine encode_call (esc_fit (by assumption)) esc_b256 ?_; intro t' k'))

theorem escape_str {w : World} {mean : ExcName → Option Value} {mg mb : Str → Option Value} (x : Str) (t : Tok) (news : List (Addr × Obj)) (hx : 2 * x.cps.size ≤ sizeLine) :
  Claim 1 Challenge.rw_dn0142_01.row.prog w (hd.heap_39 w.params) hd.view_39 (looseW hd.view_39 [Str.ofString "_special_chars_map"]) mean mg mb 26 news [.str x t] (fun t' => .str (tx (esc x.cps.toList)) t') := by
  w_top off
  k_fill
  dsimp only [Claim]
  intros
  rename_i hret
  refine wpAny_call ?_
  k_dflt cell_enter
  k_steps
  exact hret _ _ _ (by assumption) (by assumption)
theorem escape_bytes {w : World} {mean : ExcName → Option Value} {mg mb : Str → Option Value} (b : Array UInt8) (t : Tok) (news : List (Addr × Obj)) (hb : 2 * b.size ≤ sizeLine) :
  Claim 1 Challenge.rw_dn0142_01.row.prog w (hd.heap_39 w.params) hd.view_39 (looseW hd.view_39 [Str.ofString "_special_chars_map"]) mean mg mb 26 news [.bytes b t] (fun t' => .bytes (octs (esc (cpsOf b))) t') := by
  w_top off
  k_fill
  dsimp only [Claim]
  intros
  rename_i hret
  refine wpAny_call ?_
  k_dflt cell_enter
  k_steps
  rw [octs_eq]
  exact hret _ _ _ (by assumption) (by assumption)
end Mine

end
section
open PySem PySem.W PyProof.Rows PySem.Spec PySem.Calls
namespace Mine
theorem special_call {w : World} {mean : ExcName → Option Value} {mg mb : Str → Option Value} (c : Nat) (t : Tok) (news : List (Addr × Obj)):
  Claim 1 Challenge.rw_dn0142_01.row.prog w (hd.heap_39 w.params) hd.view_39 (looseW hd.view_39 [Str.ofString "_special_chars_map"]) mean mg mb 40 news [.str ⟨#[c]⟩ t] (fun _ => .bool (special c)) := by
  w_top off
  k_fill
  dsimp only [Claim]
  intros
  rename_i hret
  refine wpAny_call ?_
  k_dflt cell_enter
  k_steps
  all_goals (refine cb_retB hret ?_ (by assumption) (by first | assumption | exact Mine.News.tl (by assumption)))
  all_goals clear hret
  all_goals first | exact (special_iff.mpr (by omega)).symm | exact special_any (by omega)
end Mine

end
section
open PySem PySem.W PyProof.Rows PySem.Spec PySem.Calls
namespace Mine
local macro_rules | `(tactic| k_all) => `(tactic| first | assumption | exact ne_allLt (by assumption) | exact ne_lt (by assumption))
local macro_rules | `(tactic| walk_at "call ref") => `(tactic| (k_here; (with_reducible show wpAny _ _ (call (Value.ref 40) [Value.str _ _]) _ _ _); k_dflt (refine' claim_use (special_call _ _ _) ?k1 ?k2 ?k3 ?k4 ?k5 ?k6 ?k7 ?k8 ?_; (case k1 => k_asm); (case k2 => k_asm); (case k3 => k_asm); (case k4 => k_asm); (case k5 => k_asm); (case k6 => first | exact rfl | assumption); (case k7 => ktr_room); (case k8 => ktr_units)); intro t9 h9 tk9 F9 N9; (try dsimp only); (try k_fold)))



local macro_rules | `(tactic| walk_at "exec For") => `(tactic| (k_here; (rename Fr _ _ _ _ => lF'); (with_unfolding_all refine' stop_For lF' ?k1 ?k2 ?_; (case k1 => exact rfl); (case k2 => exact rfl); k_whole)))
local macro_rules | `(tactic| walk_at "binaryOp Mult str int") => `(tactic| (k_here; refine mul_rule (by first | omega | assumption) (by omega) ?_; intro _ _))
theorem add_fit {k : Int} {c : Nat} (hk : k ≤ 100) : (tx (List.replicate k.toNat 92)).cps.size + (⟨#[c]⟩ : PySem.Str).cps.size ≤ sizeLine := by
  simp [sizeLine_eq]; omega
theorem one_bs {c : Nat} : ((⟨#[c]⟩ : PySem.Str) == Str.ofString "\\") = decide (c = 92) := by
  rw [ofString_bs, Bool.eq_iff_iff, beq_iff_eq, decide_eq_true_eq]
  constructor
  · intro h
    have := tx_inj (a := [c]) (b := [92]) h
    simpa using this
  · rintro rfl; rfl
theorem pow_nat (n : Nat) : ((2 : Int) ^ (n : Int).toNat).toNat = 2 ^ n := by
  rw [show (n : Int).toNat = n by omega]
  have : ((2 : Int) ^ n) = ((2 ^ n : Nat) : Int) := by simp
  rw [this]; exact Int.toNat_natCast _
theorem pow_nat1 (n : Nat) : ((2 : Int) ^ (n : Int).toNat - 1).toNat = 2 ^ n - 1 := by
  rw [show (n : Int).toNat = n by omega]
  have : ((2 : Int) ^ n) = ((2 ^ n : Nat) : Int) := by simp
  rw [this]; omega
theorem guard_bs {n c : Nat} (h : ((⟨#[c]⟩ : PySem.Str) == Str.ofString "\\") = true) : tx (List.replicate ((2 : Int) ^ (n : Int).toNat).toNat 92) = tx (guardC n c) := by
  rw [one_bs, decide_eq_true_eq] at h
  rw [pow_nat]; unfold guardC; rw [if_pos h]
theorem guard_sp {n c : Nat} (h : ((⟨#[c]⟩ : PySem.Str) == Str.ofString "\\") = false) (hs : special c = true) : tx (List.replicate ((2 : Int) ^ (n : Int).toNat - 1).toNat 92 ++ [c]) = tx (guardC n c) := by
  rw [one_bs, decide_eq_false_iff_not] at h
  rw [pow_nat1]; unfold guardC; rw [if_neg h, if_pos hs]
theorem guard_no {n c : Nat} (h : ((⟨#[c]⟩ : PySem.Str) == Str.ofString "\\") = false) (hs : special c = false) : (⟨#[c]⟩ : PySem.Str) = tx (guardC n c) := by
  rw [one_bs, decide_eq_false_iff_not] at h
  unfold guardC; rw [if_neg h, if_neg (by rw [hs]; decide)]
local macro_rules | `(tactic| walk_at "binaryOp Add str str") => `(tactic| (k_here; refine add_rule (add_fit (by omega)) ?_; intro _ _))
local macro_rules | `(tactic| walk_at "call builtin:str.join") => `(tactic| (k_here; refine join_rule (ls := List.map (guardC _) _) (News.isList (by assumption) (.head _)) (by assumption) (by assumption) ?_; intro _ _))
local macro_rules | `(tactic| walk_at "call builtin:list.append") => `(tactic| (k_here; (with_reducible show wpAny _ _ (call (Value.builtin _) [Value.ref _, _]) _ _ _); k_dflt (refine' append_K ?k1 ?k2 ?k3 ?_ ?z; (case k1 => k_asm); (case k2 => k_asm); (case k3 => k_upd); (case z => rw [List.size_toArray]; assumption); k_whole); intro h' F' N'))
theorem guarded_call {w : World} {mean : ExcName → Option Value} {mg mb : Str → Option Value} (x : Str) (n : Nat) (t u : Tok) (news : List (Addr × Obj)) (hx : x.cps.size ≤ 1000) (hn : 1 ≤ n) (hn' : n ≤ 3) :
  Claim 2 Challenge.rw_dn0142_01.row.prog w (hd.heap_39 w.params) hd.view_39 (looseW hd.view_39 [Str.ofString "_special_chars_map"]) mean mg mb 47 news [.str x t, .int (n : Int) u] (fun t' => .str (tx (guardL n x.cps.toList)) t') := by
  have h8 : (2 : Int) ^ (n : Int).toNat ≤ 8 ∧ 1 ≤ (2 : Int) ^ (n : Int).toNat := by
    have e : (n : Int).toNat = n := by omega
    rw [e]
    have : n = 1 ∨ n = 2 ∨ n = 3 := by omega
    rcases this with rfl | rfl | rfl <;> decide
  w_top off
  k_fill
  dsimp only [Claim]
  intros
  rename_i hret
  refine wpAny_call ?_
  k_dflt cell_enter
  k_steps
  unfold Stop
  refine iter_str (InvApp (Str.ofString "sign") (guardC n) x.cps.toList) rfl (by assumption) (by assumption) ?start ?turn ?done
  case start => exact ⟨_, [], _, _, map_self _ _, rfl, rfl, .nil⟩
  case turn =>
    rintro i c u m₁ news₁ h tk I oI hc ⟨v0, ys, D, rest, rfl, e, rfl, hys⟩ off F' N'
    cases e
    have hI := neN (Ne.symm (off _ (.head _)))
    have off' : ∀ p ∈ news, p.1 ≠ I := fun p hp => off p (.tail _ hp)
    have hyl : ys.length ≤ sizeLine := by
      rw [hys.length]
      simp only [List.length_map, List.length_take, sizeLine_eq]
      simp; omega
    clear off
    k_steps
    all_goals (refine app_end (by assumption) (by assumption) (by assumption) (by assumption) (by assumption) hc ?_)
    all_goals first | exact guard_bs (by assumption) | exact guard_sp (by assumption) (by assumption) | exact guard_no (by assumption) (by assumption)
  case done =>
    rintro m₁ news₁ h tk ⟨v0, ys, D, rest, rfl, e, rfl, hys⟩ F' N'
    cases e
    rw [List.take_length] at hys
    have hsum : ((List.map (guardC n) x.cps.toList).map (·.length)).sum ≤ 16777216 := by
      have := guard_sum hn' x.cps.toList
      simp only [Array.length_toList] at this
      omega
    k_steps
    exact hret _ _ _ (by assumption) (Mine.News.tl (by assumption))
end Mine

end
section
open PySem PySem.W PyProof.Rows PySem.Spec PySem.Calls
namespace Mine
def signOf (x : Int) : Nat := if x % 5 = 0 then 92 else if x % 5 = 3 then (x / 5 % 32 + 32).toNat else if x % 5 = 1 then (x / 5 % 128).toNat else if x % 5 = 2 then (x / 5 % 256).toNat else (x / 5 % 55296).toNat
local macro_rules | `(tactic| walk_at "binaryOp Mod int int") => `(tactic| (k_here; refine mod_val (by assumption) (by decide) ?_; intro _ _))
theorem sign_val {x : Int} {c : Nat} (h : c = signOf x) : (⟨#[c]⟩ : PySem.Str) = tx [signOf x] := by subst h; rfl
theorem fmod5 (x : Int) : x.fmod 5 = x % 5 := Int.fmod_eq_emod_of_nonneg _ (by decide)
theorem fdiv5 (x : Int) : x.fdiv 5 = x / 5 := Int.fdiv_eq_ediv_of_nonneg _ (by decide)
theorem fdm (x m : Int) (h : 0 ≤ m) : (x.fdiv 5).fmod m = x / 5 % m := by rw [fdiv5]; exact Int.fmod_eq_emod_of_nonneg _ h
theorem sg0 {x : Int} (h : x.fmod 5 = 0) : PySem.Str.ofString "\\" = tx [signOf x] := by
  rw [ofString_bs]; rw [fmod5] at h; unfold signOf; rw [if_pos h]
theorem sg1 {x : Int} (h : x.fmod 5 = 1) : (⟨#[((x.fdiv 5).fmod 128).toNat]⟩ : PySem.Str) = tx [signOf x] := by
  rw [fmod5] at h; unfold signOf; rw [if_neg (by omega), if_neg (by omega), if_pos h, fdm _ _ (by decide)]
theorem sg2 {x : Int} (h : x.fmod 5 = 2) : (⟨#[((x.fdiv 5).fmod 256).toNat]⟩ : PySem.Str) = tx [signOf x] := by
  rw [fmod5] at h; unfold signOf; rw [if_neg (by omega), if_neg (by omega), if_neg (by omega), if_pos h, fdm _ _ (by decide)]
theorem sg3 {x : Int} (h : x.fmod 5 = 3) : (⟨#[((x.fdiv 5).fmod 32 + 32).toNat]⟩ : PySem.Str) = tx [signOf x] := by
  rw [fmod5] at h; unfold signOf; rw [if_neg (by omega), if_pos h, fdm _ _ (by decide)]
theorem sg4 {x : Int} (h : x.fmod 5 = 4) : (⟨#[((x.fdiv 5).fmod 55296).toNat]⟩ : PySem.Str) = tx [signOf x] := by
  rw [fmod5] at h; unfold signOf; rw [if_neg (by omega), if_neg (by omega), if_neg (by omega), if_neg (by omega), fdm _ _ (by decide)]
theorem sign_call {w : World} {mean : ExcName → Option Value} {mg mb : Str → Option Value} (x : Int) (t : Tok) (news : List (Addr × Obj)) :
  Claim 1 Challenge.rw_dn0142_01.row.prog w (hd.heap_39 w.params) hd.view_39 (looseW hd.view_39 [Str.ofString "_special_chars_map"]) mean mg mb 33 news [.int x t] (fun t' => .str (tx [signOf x]) t') := by
  w_top off
  k_fill
  have hk : x.fmod 5 = 0 ∨ x.fmod 5 = 1 ∨ x.fmod 5 = 2 ∨ x.fmod 5 = 3 ∨ x.fmod 5 = 4 := by rw [fmod5]; omega
  dsimp only [Claim]
  intros
  rename_i hret
  refine wpAny_call ?_
  k_dflt cell_enter
  rcases hk with hk | hk | hk | hk | hk
  all_goals k_steps
  all_goals (refine cb_retS hret ?_ (by assumption) (by first | assumption | exact Mine.News.tl (by assumption)))
  all_goals clear hret
  · exact sg0 hk
  · exact sg1 hk
  · exact sg2 hk
  · exact sg3 hk
  · exact sg4 hk
end Mine

end
section
open PySem PySem.W PyProof.Rows PySem.Spec PySem.Calls
namespace Mine
local macro_rules | `(tactic| k_all) => `(tactic| first | assumption | exact ne_allLt (by assumption) | exact ne_lt (by assumption))
local macro_rules | `(tactic| walk_at "eval ListComp") => `(tactic| (k_here; k_dflt (refine comp_stop (by k_asm) (by with_unfolding_all rfl) (by decide) (by rfl) (by decide) (by rfl) ?_)))
local macro_rules | `(tactic| walk_at "call ref") => `(tactic| (k_here; (with_reducible show wpAny _ _ (call (Value.ref 33) [Value.int _ _]) _ _ _); k_dflt (refine' claim_use (sign_call _ _ _) ?k1 ?k2 ?k3 ?k4 ?k5 ?k6 ?k7 ?k8 ?_; (case k1 => k_asm); (case k2 => k_asm); (case k3 => k_asm); (case k4 => k_asm); (case k5 => k_asm); (case k6 => first | exact rfl | assumption); (case k7 => first | ktr_room | k_room); (case k8 => first | ktr_units | k_units)); intro t9 h9 tk9 F9 N9; (try dsimp only); (try k_fold)))
local macro_rules | `(tactic| walk_at "exec For Name Call cons nil") => `(tactic| (k_here; (rename Fr _ _ _ _ => lF'); (with_unfolding_all refine' stop_For lF' ?k1 ?k2 ?_; (case k1 => exact rfl); (case k2 => exact rfl); k_whole)))

local macro_rules | `(tactic| walk_at "call builtin:str.join") => `(tactic| (k_here; refine join_ones (News.isList (by assumption) (.head _)) (by assumption) (by first | assumption | (simp; omega)) ?_; intro _ _))

theorem map_self3 {m : Str → Option Value} {a b c : Str} {vb vc : Option Value} (hb : m b = vb) (hc : m c = vc) : m = fun y => if y = a then m a else if y = b then vb else if y = c then vc else m y := by
  funext y
  by_cases h1 : y = a
  · simp [h1]
  · by_cases h2 : y = b
    · subst h2; simp [h1, hb]
    · by_cases h3 : y = c
      · subst h3; simp [h1, h2, hc]
      · simp [h1, h2, h3]
theorem mod_small (l : List Nat) : ∀ c ∈ l.map (· % 256), c < 256 := by
  intro c hc
  obtain ⟨d, _, rfl⟩ := List.mem_map.mp hc
  exact Nat.mod_lt _ (by decide)
theorem sign_mod {c : Nat} {t : Tok} : ∃ t', Value.str ⟨#[((c : Int).fmod 256).toNat]⟩ t = .str (tx [c % 256]) t' := by
  refine ⟨t, ?_⟩
  have : ((c : Int).fmod 256).toNat = c % 256 := by
    rw [Int.fmod_eq_emod_of_nonneg _ (by decide)]; omega
  rw [this]
local macro_rules | `(tactic| walk_at "call type:bytes") => `(tactic| (k_here; refine bytes_rule (by assumption) (by assumption) rfl (News.isList (by assumption) (.head _)) (All2.ints (by assumption)) (by first | exact mod_small _ | exact guard_small (mod_small _)) (by first | assumption | (simp; omega)) ?_; intro _ _ _ _ _))

local macro_rules | `(tactic| walk_at "binaryOp Sub int int") => `(tactic| (k_here; refine sub_val (by assumption) ?_; intro _ _))
local macro_rules | `(tactic| walk_at "call ref") => `(tactic| (k_here; (with_reducible show wpAny _ _ (call (Value.ref 26) [Value.str _ _]) _ _ _); k_dflt (refine' claim_use (escape_str _ _ _ (by assumption)) ?k1 ?k2 ?k3 ?k4 ?k5 ?k6 ?k7 ?k8 ?_; (case k1 => k_asm); (case k2 => k_asm); (case k3 => k_asm); (case k4 => k_asm); (case k5 => k_asm); (case k6 => first | exact rfl | assumption); (case k7 => first | ktr_room | k_room); (case k8 => first | ktr_units | k_units)); intro t9 h9 tk9 F9 N9; (try dsimp only); (try k_fold)))
local macro_rules | `(tactic| walk_at "call ref") => `(tactic| (k_here; (with_reducible show wpAny _ _ (call (Value.ref 26) [Value.bytes _ _]) _ _ _); k_dflt (refine' claim_use (escape_bytes _ _ _ (by assumption)) ?k1 ?k2 ?k3 ?k4 ?k5 ?k6 ?k7 ?k8 ?_; (case k1 => k_asm); (case k2 => k_asm); (case k3 => k_asm); (case k4 => k_asm); (case k5 => k_asm); (case k6 => first | exact rfl | assumption); (case k7 => first | ktr_room | k_room); (case k8 => first | ktr_units | k_units)); intro t9 h9 tk9 F9 N9; (try dsimp only); (try k_fold)))
local macro_rules | `(tactic| walk_at "call ref") => `(tactic| (k_here; (with_reducible show wpAny _ _ (call (Value.ref 47) [Value.str _ _, Value.int _ _]) _ _ _); k_dflt (refine' claim_use (guarded_call _ _ _ _ _ (by simp; omega) (by assumption) (by assumption)) ?k1 ?k2 ?k3 ?k4 ?k5 ?k6 ?k7 ?k8 ?_; (case k1 => k_asm); (case k2 => k_asm); (case k3 => k_asm); (case k4 => k_asm); (case k5 => k_asm); (case k6 => first | exact rfl | assumption); (case k7 => first | ktr_room | k_room); (case k8 => first | ktr_units | k_units)); intro t9 h9 tk9 F9 N9; (try dsimp only); (try k_fold)))
theorem times_is (k : Nat) : ∃ n : Nat, (3 : Int) - (k : Int).fmod 3 = (n : Int) ∧ 1 ≤ n ∧ n ≤ 3 := by
  refine ⟨3 - k % 3, ?_, by omega, by omega⟩
  rw [Int.fmod_eq_emod_of_nonneg _ (by decide)]; omega
theorem told_fit {n i : Nat} {l : List Nat} (hl : l.length ≤ 63) (hi : i < n) (hn : n ≤ 3) : 2 * (tx (guardL i l)).cps.size ≤ sizeLine := by
  have := guard_len (n := i) (by omega) l
  rw [sizeLine_eq]; simp; omega
theorem octs_fit {n i : Nat} {l : List Nat} (hl : l.length ≤ 63) (hi : i < n) (hn : n ≤ 3) : 2 * (octs (guardL i l)).size ≤ sizeLine := by
  have := guard_len (n := i) (by omega) l
  rw [sizeLine_eq]; simp [octs]; omega
theorem range_n (n : Nat) : Builtin.Range.rangeSize 0 (n : Int) 1 = (n : Int) := by
  unfold Builtin.Range.rangeSize
  simp
  omega
theorem step_told {i : Nat} {l : List Nat} : esc (tx (guardL i l)).cps.toList = guardL (i + 1) l := guard_step i l
theorem step_octs {i : Nat} {l : List Nat} (h : ∀ c ∈ l, c < 256) : esc (cpsOf (octs (guardL i l))) = guardL (i + 1) l := by
  rw [cpsOf_octs (guard_small h)]; exact guard_step i l
def InvTold (tl ll : List Nat) : Inv := fun m₀ nw₀ i m nw => nw = nw₀ ∧ ∃ v0 t1 t2, m = fun y => if y = Str.ofString "step" then v0 else if y = Str.ofString "told" then some (.str (tx (guardL i tl)) t1) else if y = Str.ofString "octets" then some (.bytes (octs (guardL i ll)) t2) else m₀ y
theorem told_map {m₀ : Str → Option Value} {v0 v1 a a' b b' : Option Value} : (fun y => if y = Str.ofString "octets" then b' else if y = Str.ofString "told" then a' else if y = Str.ofString "step" then v1 else (fun y => if y = Str.ofString "step" then v0 else if y = Str.ofString "told" then a else if y = Str.ofString "octets" then b else m₀ y) y) =
    fun y => if y = Str.ofString "step" then v1 else if y = Str.ofString "told" then a' else if y = Str.ofString "octets" then b' else m₀ y := by
  have d1 : Str.ofString "octets" ≠ Str.ofString "told" := by decide
  have d2 : Str.ofString "octets" ≠ Str.ofString "step" := by decide
  have d3 : Str.ofString "told" ≠ Str.ofString "step" := by decide
  funext y
  by_cases h1 : y = Str.ofString "octets"
  · subst h1; simp [d1, d2]
  · by_cases h2 : y = Str.ofString "told"
    · subst h2; simp [h1, d3]
    · by_cases h3 : y = Str.ofString "step"
      · subst h3; simp [h1, h2]
      · simp [h1, h2, h3]
theorem told_start {m₀ : Str → Option Value} {tl ll : List Nat} {t1 t2 : Tok} {nw : List (Addr × Obj)} (h1 : m₀ (Str.ofString "told") = some (.str (tx tl) t1)) (h2 : m₀ (Str.ofString "octets") = some (.bytes (octs ll) t2)) : InvTold tl ll m₀ nw 0 m₀ nw := by
  refine ⟨rfl, m₀ (Str.ofString "step"), t1, t2, ?_⟩
  rw [guard_zero, guard_zero]
  exact map_self3 h1 h2
theorem told_end {h₀ h' : Heap} {L : Addr} {m₀ : Str → Option Value} {tl ll : List Nat} {i : Nat} {v0 v1 a b : Option Value} {t1 t2 : Tok} {I : Addr} {oI : Obj} {nw : List (Addr × Obj)} {s₁ : Shared} {tk : Nat} {Q : Flow → Shared → Prop}
    (F : Fr h₀ L h' (fun y => if y = Str.ofString "octets" then some (.bytes (octs (esc (cpsOf (octs (guardL i ll))))) t2) else if y = Str.ofString "told" then some (.str (tx (esc (tx (guardL i tl)).cps.toList)) t1) else if y = Str.ofString "step" then v1 else (fun y => if y = Str.ofString "step" then v0 else if y = Str.ofString "told" then a else if y = Str.ofString "octets" then b else m₀ y) y))
    (N : News h₀ L h' ((I, oI) :: nw)) (off : ∀ p ∈ nw, p.1 ≠ I) (hsm : ∀ c ∈ ll, c < 256) :
    TPost h₀ L (InvTold tl ll m₀ nw (i + 1)) I oI s₁ Q .next { s₁ with heap := h', toks := tk } := by
  rw [told_map, step_told, step_octs hsm] at F
  exact TPost.next (TEnd.mk' F N (fun p hp => hp) off ⟨rfl, v1, t1, t2, rfl⟩)
theorem small_n {n : Nat} (h1 : 1 ≤ n) (h : n ≤ 3) : Builtin.Range.small 0 (n : Int) 1 = true := by
  have : n = 1 ∨ n = 2 ∨ n = 3 := by omega
  rcases this with rfl | rfl | rfl <;> decide
theorem law01 : PySem.Challenge.rw_dn0142_01.Holds := hd (by
  w_strict (
    k_go0
    rename List Int => ns
    have hns : ns.length ≤ 63 := by omega
    obtain ⟨n, hn, hn1, hn3⟩ := times_is (List.take 63 ns).length
    k_steps
    unfold Stop
    refine comp_ints (R := fun k y => ∃ t, y = .str (tx [signOf k]) t) rfl (by assumption) (by assumption) (.inr ⟨_, .head _, rfl, _, rfl⟩) (by assumption) (by simp [sizeLine_eq]; omega) ?turn1 ?fin1
    case turn1 =>
      intro k v I oI C oC D m₂ ys h tk E' hk hv hC hx F N off ne
      obtain ⟨u, rfl⟩ := hv
      k_steps
      exact CEnd.mk' (by assumption) (by assumption) (fun p hp => hp) ⟨_, rfl⟩
    case fin1 =>
      intro ys D h tk hy F N off
      k_steps
      unfold Stop
      refine comp_tx (fun c y => ∃ t, y = .str (tx [c % 256]) t) rfl (by assumption) (by assumption) (by simp [sizeLine_eq]; omega) ?turn2 ?fin2
      case turn2 =>
        intro c v I oI C oC D m₂ ys h tk E' hc hv hC hx F N off ne
        obtain ⟨u, rfl⟩ := hv
        k_steps
        exact CEnd.mk' (by assumption) (by assumption) (fun p hp => hp) sign_mod
      case fin2 =>
        intro ys D h tk hy F N off
        k_steps
        unfold Stop
        refine comp_tx (fun c y => ∃ t, y = .int (Int.ofNat c) t) rfl (by assumption) (by assumption) (by simp [sizeLine_eq]; omega) ?turn3 ?fin3
        case turn3 =>
          intro c v I oI C oC D m₂ ys h tk E' hc hv hC hx F N off ne
          obtain ⟨u, rfl⟩ := hv
          k_steps
          exact CEnd.mk' (by assumption) (by assumption) (fun p hp => hp) ⟨_, rfl⟩
        case fin3 =>
          intro ys D h tk hy F N off
          k_steps
          unfold Stop
          have htl : (List.map signOf (List.take 63 ns)).length ≤ 63 := by simp; omega
          have hll : (List.map (fun x => x % 256) (List.map signOf (List.take 63 ns))).length ≤ 63 := by simp; omega
          have hsm : ∀ c ∈ List.map (fun x => x % 256) (List.map signOf (List.take 63 ns)), c < 256 := mod_small _
          refine iter_range (n := n) (InvTold (List.map signOf (List.take 63 ns)) (List.map (fun x => x % 256) (List.map signOf (List.take 63 ns)))) rfl (by assumption) (small_n hn1 hn3) (range_n n) (by assumption) (by assumption) ?start ?turn ?done
          case start => exact told_start rfl rfl
          case turn =>
            rintro i t' m₁ news₁ h tk I oI hi ⟨rfl, v0, t1, t2, rfl⟩ off F N
            have f1 := told_fit htl hi hn3
            have f2 := octs_fit hll hi hn3
            k_steps
            exact told_end (by assumption) (by assumption) off hsm
          case done =>
            rintro m₁ news₁ h tk ⟨rfl, v0, t1, t2, rfl⟩ F N
            k_steps
            unfold Stop
            have hgl : (guardL n (List.map (fun x => x % 256) (List.map signOf (List.take 63 ns)))).length ≤ 16777216 := by
              have := guard_len hn3 (List.map (fun x => x % 256) (List.map signOf (List.take 63 ns)))
              omega
            refine comp_tx (fun c y => ∃ t, y = .int (Int.ofNat c) t) rfl (by assumption) (by assumption) (by rw [sizeLine_eq]; exact hgl) ?turn4 ?fin4
            case turn4 =>
              intro c v I oI C oC D m₂ ys h tk E' hc hv hC hx F N off ne
              obtain ⟨u, rfl⟩ := hv
              k_steps
              exact CEnd.mk' (by assumption) (by assumption) (fun p hp => hp) ⟨_, rfl⟩
            case fin4 =>
              intro ys D h tk hy F N off
              k_steps))
end Mine

end
theorem PySem.Challenge.cw_dn0142_01_holds : PySem.Challenge.rw_dn0142_01.Holds :=
  Mine.law01
