import PyProof.Rows.All
import Wide.All
import OpenK.AllK
import Wide.FinOn
import PySem.Challenge.RW_dn0142_02
open PySem PySem.W PyProof.Rows
set_option Elab.async false
set_option maxRecDepth 100000
set_option maxHeartbeats 8000000
namespace Mine
open_top hd for PySem.Challenge.rw_dn0142_02
end Mine
section
open PySem PySem.W PyProof.Rows PySem.Builtin PySem.Builtin.Str
namespace Mine
def special (c : Nat) : Bool :=
  (decide (9 ≤ c) && decide (c ≤ 13)) || (decide (40 ≤ c) && decide (c ≤ 43)) || (decide (91 ≤ c) && decide (c ≤ 94)) || (decide (123 ≤ c) && decide (c ≤ 126)) || c == 32 || c == 35 || c == 36 || c == 38 || c == 45 || c == 46 || c == 63

def escC (c : Nat) : List Nat := if special c then [92, c] else [c]
def esc (l : List Nat) : List Nat := l.flatMap escC
theorem esc_cons (c : Nat) (l : List Nat) : esc (c :: l) = escC c ++ esc l := List.flatMap_cons
theorem escC_len (c : Nat) : (escC c).length ≤ 2 := by unfold escC; split <;> simp
theorem esc_len (l : List Nat) : (esc l).length ≤ 2 * l.length := by
  induction l with
  | nil => simp [esc]
  | cons c l ih => rw [esc_cons, List.length_append, List.length_cons]; have := escC_len c; omega

abbrev Grow (h h' : Heap) : Prop := ∀ b o, h.get? b = some o → h'.get? b = some o

section
variable {prog : Program} {w : World} {A : Around} {E : Value → Shared → Prop} {s : Shared}

theorem MapOf.grow {h h' : Heap} {d : Addr} {f : Int → Option Value} (hm : h.MapOf (intKind prog w) d f) (g : Grow h h') : h'.MapOf (intKind prog w) d f :=
  let ⟨o, es, ep, ho, r⟩ := hm; ⟨o, es, ep, g _ _ ho, r⟩

def TabFor (f : Int → Option Value) : Prop := ∀ c : Nat, (special c = false ∧ f c = none) ∨ (special c = true ∧ ∃ u, f c = some (.str ⟨#[92, c]⟩ u))

theorem lookup_rule {d : Addr} {c : Nat} {f : Int → Option Value} {Q : Mapped → Shared → Prop} (hA : A.handled = none)
   (hd : (d == sysModules) = false) (hm : s.heap.MapOf (intKind prog w) d f) (hf : TabFor f)
   (h : ∀ h' tk', Grow s.heap h' → Q (if special c then .text ⟨#[92, c]⟩ else .keep) { s with heap := h', toks := tk' }) :
   wpAny (model prog w) A (tableLookup (.ref d) c) Q E s := by
  unfold tableLookup
  refine wpAny_bind (wpAny_attempt (wpAny_bind (wpAny_mkInt ?_)))
  rcases hf c with ⟨h1, h2⟩ | ⟨h1, u, h2⟩
  · refine wpAny_getItem_missing_of (knd := intKind prog w) (k := (c : Int)) (by simp [intKind, Value.isInt]) hd hA hm h2 fun h' e ne => ?_
    dsimp only
    obtain ⟨ob, t, ho, hc, _⟩ := ne.there
    refine wpAny_bind (wpAny_isInstance (T := "KeyError") (b := true) ⟨ob, ho, hc⟩ (by rw [isSubtype_type]; kernel_rfl) ?_)
    simp only [if_true]
    refine wpAny_bind (wpAny_rule (wpAny_pure ?_))
    have := h h' (s.toks + 1 + 1) ne.keeps
    rw [h1] at this
    exact this
  · refine wpAny_getItem_of (knd := intKind prog w) (k := (c : Int)) (by simp [intKind, Value.isInt]) hm h2 ?_
    dsimp only
    refine wpAny_bind (wpAny_of_eq (a := none) rfl ?_)
    refine wpAny_bind (wpAny_of_eq (a := some ⟨#[92, c]⟩) rfl (wpAny_pure ?_))
    have := h s.heap (s.toks + 1 + 1) (fun _ _ e => e)
    rw [h1] at this
    exact this

/-- the state of translate's loop: what is done so far, and the rest -/
structure TrInv (s₀ : Shared) (x : List Nat) (rest : List Nat) (b : List PySem.Str × Nat × Bool × List (Nat × Option Nat) × Bool) (s' : Shared) : Prop where
  st : ∃ h' tk', s' = { s₀ with heap := h', toks := tk' } ∧ Grow s₀.heap h'
  cut : ∃ pre, x = pre ++ rest ∧ b.1.reverse.flatMap (fun p => p.cps.toList) = esc pre ∧ b.2.1 = (esc pre).length
  known : ∀ p ∈ b.2.2.2.1, special p.1 = false ∧ p.2 = some p.1
  drop : b.2.2.2.2 = false

theorem lookup_known {known : List (Nat × Option Nat)} (hk : ∀ p ∈ known, special p.1 = false ∧ p.2 = some p.1) {c : Nat} {a : Option Nat} (e : List.lookup c known = some a) : special c = false ∧ a = some c := by
  induction known with
  | nil => cases e
  | cons p l ih =>
    rw [List.lookup_cons] at e
    by_cases hc : (c == p.1) = true
    · rw [hc] at e
      have e' : p.2 = a := Option.some.inj e
      have hc' : c = p.1 := eq_of_beq hc
      rw [← e', hc']
      exact hk p (List.mem_cons_self ..)
    · have hc' : (c == p.1) = false := by simpa using hc
      rw [hc'] at e
      exact ih (fun q hq => hk q (List.mem_cons_of_mem _ hq)) e

theorem foldl_cps (l : List PySem.Str) : ∀ acc : Array Nat, (l.foldl (fun acc p => acc ++ p.cps) acc).toList = acc.toList ++ l.flatMap (fun p => p.cps.toList) := by
  induction l with
  | nil => intro acc; simp
  | cons p l ih => intro acc; rw [List.foldl_cons, ih, List.flatMap_cons]; simp

theorem translate_rule {d : Addr} {x : PySem.Str} {t : Tok} {f : Int → Option Value} {Q : Value → Shared → Prop} (hA : A.handled = none)
   (hd : (d == sysModules) = false) (hm : s.heap.MapOf (intKind prog w) d f) (hf : TabFor f)
   (hlen : 2 * x.cps.size ≤ sizeLine)
   (h : ∀ h' tk' t', Grow s.heap h' → Q (.str ⟨(esc x.cps.toList).toArray⟩ t') { s with heap := h', toks := tk' }) :
   wpAny (model prog w) A (call (.builtin "str.translate") [.str x t, .ref d]) Q E s := by
  refine wpAny_call_entry PySem.F.slot_str_translate (PySem.typeIs_str _ _ _) PySem.F.entry_str_translate ?_ (PySem.F.args_str_translate_2 _ _)
  unfold Builtin.«str.translate»
  refine wpAny_bind (wpAny_of_eq (a := (.str x t, x, .ref d)) rfl ?_)
  dsimp only
  by_cases h0 : x.length = 0
  · rw [if_pos (by simp [h0])]
    refine wpAny_bind (wpAny_rule (wpAny_bind (wpAny_of_eq (a := .str x t) rfl (wpAny_pure ⟨_, rfl, ?_⟩))))
    have hx : x = ⟨(esc x.cps.toList).toArray⟩ := by
      obtain ⟨⟨l⟩⟩ := x
      have : l = [] := List.length_eq_zero_iff.mp h0
      subst this; rfl
    have := h s.heap s.toks t (fun _ _ e => e)
    rw [← hx] at this
    exact this
  · rw [if_neg (by simp [h0])]
    refine wpAny_bind (MeetsSeq2.wpAny_forIn_array _ (TrInv s x.cps.toList) _ ?turn ?fin _ _ ?start)
    case start => exact ⟨⟨s.heap, s.toks, rfl, fun _ _ e => e⟩, ⟨[], rfl, rfl, rfl⟩, (fun p hp => nomatch hp), rfl⟩
    case turn =>
      rintro c rest ⟨pieces, total, fast, known, drop⟩ s' ⟨⟨h', tk', rfl, g⟩, ⟨pre, hx, hp, ht⟩, hk, hdr⟩
      dsimp only at hp ht hk hdr ⊢
      subst hdr
      have hl : (esc pre).length ≤ sizeLine := by
        have := esc_len pre
        have hx' : x.cps.size = pre.length + (rest.length + 1) := by rw [← Array.length_toList, hx]; simp
        omega
      rw [if_neg (by unfold tooLong; simp; omega)]
      have hm' := MapOf.grow hm g
      have slow : ∀ fast known, (∀ p ∈ known, special p.1 = false ∧ p.2 = some p.1) → ∀ h₂ tk₂, Grow s.heap h₂ → wpAny (model prog w) A.in1
          (do
            let __do_lift ← tableLookup (.ref d) c
            match __do_lift with
              | Mapped.keep => pure (ForInStep.yield ((⟨#[c]⟩ : PySem.Str) :: pieces, total + 1, fast, known, false))
              | Mapped.drop => pure (ForInStep.yield (pieces, total, fast, known, true))
              | Mapped.char d => pure (ForInStep.yield ((⟨#[d]⟩ : PySem.Str) :: pieces, total + 1, fast, known, false))
              | Mapped.text t => pure (ForInStep.yield (t :: pieces, total + t.length, fast, known, false)))
          (fun r s' => match r with
            | ForInStep.yield b' => TrInv s x.cps.toList rest b' s'
            | ForInStep.done b' => False) E { s with heap := h₂, toks := tk₂ } := by
        intro fast known hk h₂ tk₂ g₂
        refine wpAny_bind (lookup_rule (s := { s with heap := h₂, toks := tk₂ }) (by exact hA) hd (MapOf.grow hm g₂) hf fun h₃ tk₃ g₃ => ?_)
        have gg : Grow s.heap h₃ := fun b o e => g₃ b o (g₂ b o e)
        cases hs : special c
        · simp only [Bool.false_eq_true, if_false]
          refine wpAny_pure ⟨⟨h₃, tk₃, rfl, gg⟩, ⟨pre ++ [c], by simp [hx], ?_, ?_⟩, hk, rfl⟩
          · simp [hp, esc, escC, hs]
          · simp [ht, esc, escC, hs]
        · simp only [if_true]
          refine wpAny_pure ⟨⟨h₃, tk₃, rfl, gg⟩, ⟨pre ++ [c], by simp [hx], ?_, ?_⟩, hk, rfl⟩
          · simp [hp, esc, escC, hs]
          · simp [ht, esc, escC, hs, PySem.Str.length]
      cases fast with
      | false =>
        simp only [Bool.false_eq_true, if_false]
        exact wpAny_mono (slow false known hk h' tk' g) (fun r s' hr => by cases r with | yield b' => exact hr | done b' => exact hr.elim) (fun _ _ e => e)
      | true =>
        simp only [if_true, Bool.false_eq_true, if_false]
        cases hl : List.lookup c known with
        | some a =>
          obtain ⟨h1, rfl⟩ := lookup_known hk hl
          dsimp only
          refine wpAny_bind (wpAny_pure (wpAny_pure ⟨⟨h', tk', rfl, g⟩, ⟨pre ++ [c], by simp [hx], ?_, ?_⟩, hk, rfl⟩))
          · simp [hp, esc, escC, h1]
          · simp [ht, esc, escC, h1]
        | none =>
          dsimp only
          refine wpAny_bind (lookup_rule (s := { s with heap := h', toks := tk' }) (by exact hA) hd hm' hf fun h₃ tk₃ g₃ => ?_)
          have gg : Grow s.heap h₃ := fun b o e => g₃ b o (g b o e)
          cases hs : special c
          · simp only [Bool.false_eq_true, if_false]
            refine wpAny_bind (wpAny_pure (wpAny_pure ⟨⟨h₃, tk₃, rfl, gg⟩, ⟨pre ++ [c], by simp [hx], ?_, ?_⟩, ?_, rfl⟩))
            · simp [hp, esc, escC, hs]
            · simp [ht, esc, escC, hs]
            · intro p hp
              rcases List.mem_cons.mp hp with rfl | hp
              · exact ⟨hs, rfl⟩
              · exact hk p hp
          · simp only [if_true]
            refine wpAny_bind (wpAny_pure (wpAny_bind (wpAny_rule ?_)))
            exact wpAny_mono (slow false known hk h₃ tk₃ gg) (fun r s' hr => by cases r with | yield b' => exact hr | done b' => exact hr.elim) (fun _ _ e => e)
    case fin =>
      rintro ⟨pieces, total, fast, known, drop⟩ s' ⟨⟨h', tk', rfl, g⟩, ⟨pre, hx, hp, ht⟩, hk, hdr⟩
      dsimp only at hp ht hk hdr ⊢
      have hl : (esc pre).length ≤ sizeLine := by
        have := esc_len pre
        have hx' : x.cps.size = pre.length := by rw [← Array.length_toList, hx]; simp
        omega
      rw [if_neg (by unfold tooLong; simp; omega)]
      have e : ({ cps := List.foldl (fun acc p => acc ++ p.cps) #[] pieces.reverse } : PySem.Str) = ⟨(esc x.cps.toList).toArray⟩ := by
        congr 1
        apply Array.toList_inj.mp
        rw [foldl_cps, hx]
        simpa using hp
      rw [e]
      refine wpAny_bind (wpAny_mkStr (wpAny_pure ⟨_, rfl, h h' _ _ g⟩) ?_)
      show (esc x.cps.toList).toArray.size ≤ sizeLine
      rw [hx, List.append_nil, List.size_toArray]
      exact hl
end
end Mine

end
section
open PySem PySem.W PyProof.Rows PySem.Builtin PySem.Builtin.Str
namespace Mine
theorem new_eq {b : Array UInt8} {t u : Tok} : Builtin.«str.__new__» ⟨[.type "str", .bytes b t, .str (PySem.Str.ofString "latin1") u], []⟩ =
   (do
     let e ← mkStr (PySem.Str.ofString "latin1")
     rule "str.__new__.decode-bytes"
     let v ← call (.builtin "bytes.decode") [.bytes b t] [(PySem.Str.ofString "encoding", e)]
     ret v) := by kernel_rfl
theorem dec_eq {c : UInt8} {cs : List UInt8} {t u : Tok} : Builtin.«bytes.decode» ⟨[.bytes (c :: cs).toArray t], [(PySem.Str.ofString "encoding", .str (PySem.Str.ofString "latin1") u)]⟩ =
   (do
     let _ ← mkStr (PySem.Str.ofString "utf-8")
     let e ← mkStr (PySem.Str.ofString "latin1")
     let i ← mkStr (PySem.Str.ofString "bytes.decode")
     let v ← call (.builtin "_codecs.decode.text") [.bytes (c :: cs).toArray t, e, .none, i]
     ret v) := by kernel_rfl
theorem dec_nil {t u : Tok} : Builtin.«bytes.decode» ⟨[.bytes #[] t], [(PySem.Str.ofString "encoding", .str (PySem.Str.ofString "latin1") u)]⟩ =
   (do
     rule "bytes.decode.empty"
     retStr PySem.Str.empty) := by kernel_rfl
theorem road_latin1 {id : String} {b : Array UInt8} : _codecs.decodeRoad id b (PySem.Str.ofString "latin1") none [] = (_codecs.runDecoder id _codecs.latin1Decoder none true b 0 [] >>= fun r => mkStr ⟨r.1⟩) := by kernel_rfl
theorem enc_eq {x : PySem.Str} {t u : Tok} : Builtin.«str.encode» ⟨[.str x t, .str (PySem.Str.ofString "latin1") u], []⟩ =
   ((_codecs.encodeNarrow "str.encode" _codecs.latin1Codec none (.str x t) x >>= fun b => mkBytes b) >>= fun v => ret v) := by kernel_rfl

section
variable {M : Model} {A : Around} {E : Value → Shared → Prop} {s : Shared}
theorem runDecoder_latin1 {id : String} {b : Array UInt8} {Q : Array Nat × Nat → Shared → Prop} (hb : b.size ≤ sizeLine) (h : Q (b.map UInt8.toNat, b.size) s) :
    wpAny M A (_codecs.runDecoder id _codecs.latin1Decoder none true b 0 []) Q E s := by
  unfold _codecs.runDecoder
  dsimp only
  rw [KPc.range_list]
  refine wpAny_bind (wpAny_forIn_list _ (fun rest st s' => s = s' ∧ st.1 + rest.length = b.size ∧ st.2.1 = ((b.toList.take st.1).map UInt8.toNat).toArray) _ ?turn ?fin _ _ ?start)
  case start => exact ⟨rfl, by simp, by simp⟩
  case fin =>
    rintro ⟨p, out, st⟩ s' ⟨rfl, hp, ho⟩
    refine wpAny_pure ?_
    dsimp only at hp ho ⊢
    have hp' : p = b.size := by simpa using hp
    have e : out = b.map UInt8.toNat := by
      rw [ho, hp']
      apply Array.toList_inj.mp
      rw [List.take_of_length_le (by simp)]
      simp
    rw [e, hp']
    exact h
  case turn =>
    rintro k rest ⟨p, out, st⟩ s' ⟨rfl, hp, ho⟩
    dsimp only at hp ho ⊢
    rw [List.length_cons] at hp
    have hlt : p < b.size := by omega
    have hos : out.size = p := by rw [ho]; simp; omega
    rw [if_neg (by omega), if_neg (by omega)]
    refine wpAny_pure ⟨rfl, by dsimp only; omega, ?_⟩
    dsimp only
    rw [ho]
    apply Array.toList_inj.mp
    rw [List.take_add_one]
    simp [hlt, Array.getD]
theorem extract_latin1 {x : PySem.Str} (hx : ∀ c ∈ x.cps, c < 256) : Array.findIdx? _codecs.latin1Codec.bad (x.cps.extract 0) = none := by
  rw [Array.findIdx?_eq_none_iff]
  intro c hc
  have : c ∈ x.cps := by simpa using hc
  have := hx c this
  show decide (c ≥ 256) = false
  simp; omega
theorem foldl_toUInt8 (l : List Nat) : ∀ acc : Array UInt8, (l.foldl (fun acc y => acc ++ (_codecs.latin1Codec.bytesOf y).toArray) acc).toList = acc.toList ++ l.map Nat.toUInt8 := by
  induction l with
  | nil => intro acc; simp
  | cons c l ih => intro acc; rw [List.foldl_cons, ih]; simp [_codecs.latin1Codec]
theorem encode_latin1 {id : String} {x : PySem.Str} {v : Value} {Q : Array UInt8 → Shared → Prop} (hb : x.cps.size ≤ sizeLine) (hx : ∀ c ∈ x.cps, c < 256) (h : Q (x.cps.map Nat.toUInt8) s) :
    wpAny M A (_codecs.encodeNarrow id _codecs.latin1Codec none v x) Q E s := by
  unfold _codecs.encodeNarrow
  dsimp only
  rw [KPc.range_list]
  refine wpAny_bind (wpAny_forIn_list _ (fun rest st s' => s = s' ∧ ((st.1 = 0 ∧ st.2.1 = #[] ∧ rest.length = x.cps.size) ∨ (st.1 = x.cps.size ∧ st.2.1 = x.cps.map Nat.toUInt8))) _ ?turn ?fin _ _ ?start)
  case start => exact ⟨rfl, .inl ⟨rfl, rfl, by simp [PySem.Str.length]⟩⟩
  case fin =>
    rintro ⟨p, out, st⟩ s' ⟨rfl, hh⟩
    refine wpAny_pure ?_
    dsimp only at hh ⊢
    rcases hh with ⟨_, ho, hr⟩ | ⟨_, ho⟩
    · have : x.cps = #[] := by
        apply Array.eq_empty_of_size_eq_zero
        simpa using hr.symm
      rw [this] at h
      rw [ho]
      simpa using h
    · rw [ho]; exact h
  case turn =>
    rintro k rest ⟨p, out, st⟩ s' ⟨rfl, hh⟩
    dsimp only at hh ⊢
    rcases hh with ⟨hp, ho, hr⟩ | ⟨hp, ho⟩
    · subst hp; subst ho
      rw [List.length_cons] at hr
      have h0 : 0 < x.cps.size := by omega
      rw [if_neg (by simp)]
      rw [Array.getElem?_eq_getElem h0]
      dsimp only
      have h1 : _codecs.latin1Codec.bad x.cps[0] = false := by
        have := hx x.cps[0] (Array.getElem_mem h0)
        show decide (x.cps[0] ≥ 256) = false
        simp; omega
      rw [h1]
      simp only [Bool.not_false, if_true]
      refine wpAny_pure ⟨rfl, .inr ⟨?_, ?_⟩⟩
      · dsimp only
        rw [extract_latin1 hx]
        simp
      · dsimp only
        rw [extract_latin1 hx]
        apply Array.toList_inj.mp
        rw [← Array.foldl_toList, foldl_toUInt8]
        simp
    · subst hp; subst ho
      rw [if_neg (by simpa using hb)]
      rw [Array.getElem?_eq_none (Nat.le_refl _)]
      exact wpAny_pure (wpAny_pure h)
end

theorem typeCall_str_2 (a b : Value) : checkTypeCall "str" ⟨[a, b], []⟩ = pure () := by kernel_rfl
theorem newCall_str_2 (a b : Value) : checkBuiltinCall "str.__new__" ⟨[.type "str", a, b], []⟩ = pure () := by kernel_rfl
theorem args_object_init_3 (a b c : Value) : argsOk "object.__init__" ⟨[a, b, c], []⟩ := by unfold argsOk; kernel_rfl
theorem args_decode_kw (a b : Value) : argsOk "bytes.decode" ⟨[a], [(PySem.Str.ofString "encoding", b)]⟩ := by
  unfold argsOk; rw [signature?_of (id := "bytes.decode") (n := ['e', 'd', 'o', 'c', 'e', 'd']) (o := ['s', 'e', 't', 'y', 'b']) (by kernel_rfl) FB.owner_bytes]; kernel_rfl

theorem meets_text {b : Array UInt8} {t t1 t2 : Tok} {d : PySem.Str} :
    Meets (Builtin.«_codecs.decode.text» ⟨[.bytes b t, .str (PySem.Str.ofString "latin1") t1, .none, .str d t2], []⟩) (fun _ R s => b.size ≤ sizeLine ∧ R (.ok (.ret (.str ⟨b.map UInt8.toNat⟩ s.toks))) { s with toks := s.toks + 1 }) := by
  refine .of_wp fun prog w A R s hS => ?_
  obtain ⟨hsz, h⟩ := hS
  show wpAny _ _ (Bytes.bytesLike _ (.bytes b t) >>= fun r => _) _ _ s
  refine wpAny_bind (wpAny_of_eq KBd.like_eq ?_)
  refine wpAny_bind (wpAny_of_eq KBd.held_eq ?_)
  show wpAny _ _ (_codecs.decodeRoad _ b (PySem.Str.ofString "latin1") none [] >>= fun v => _) _ _ s
  rw [road_latin1]
  refine wpAny_bind (wpAny_bind (runDecoder_latin1 hsz ?_))
  exact wpAny_mkStr (wpAny_pure ⟨_, rfl, h⟩) (by show (b.map UInt8.toNat).size ≤ sizeLine; simpa using hsz)

section
variable {prog : Program} {w : World} {A : Around} {E : Value → Shared → Prop} {s : Shared}
theorem decode_kw {b : Array UInt8} {t u : Tok} {Q : Value → Shared → Prop} (hb : b.size ≤ sizeLine) (h : ∀ t' k, Q (.str ⟨b.map UInt8.toNat⟩ t') { s with toks := k }) :
    wpAny (model prog w) A (call (.builtin "bytes.decode") [.bytes b t] [(PySem.Str.ofString "encoding", .str (PySem.Str.ofString "latin1") u)]) Q E s := by
  refine wpAny_call_entry_kw FB.slot_bytes_decode (typeIs_bytes _ _ _) FB.entry_bytes_decode ?_ (args_decode_kw _ _)
  obtain ⟨l⟩ := b
  cases l with
  | nil =>
    rw [dec_nil]
    refine wpAny_bind (wpAny_rule (wpAny_bind (wpAny_mkStr (wpAny_pure ⟨_, rfl, ?_⟩) (by decide))))
    have e : (⟨Array.map UInt8.toNat ⟨[]⟩⟩ : PySem.Str) = PySem.Str.empty := by simp [PySem.Str.empty]
    have := h s.toks (s.toks + 1)
    rw [e] at this
    exact this
  | cons c cs =>
    rw [dec_eq]
    refine wpAny_bind (wpAny_mkStr ?_ (by decide))
    refine wpAny_bind (wpAny_mkStr ?_ (by decide))
    refine wpAny_bind (wpAny_mkStr ?_ (by decide))
    exact wpAny_bind (call_function_meets KBd.kind_text KBd.plain_text KBd.entry_text (KBd.args_text _ _ _ _) meets_text ⟨hb, wpAny_pure ⟨_, rfl, h _ _⟩⟩)

theorem str_latin1 {b : Array UInt8} {t u : Tok} {Q : Value → Shared → Prop} (hb : b.size ≤ sizeLine) (h : ∀ t' k, Q (.str ⟨b.map UInt8.toNat⟩ t') { s with toks := k }) :
    wpAny (model prog w) A (call (.type "str") [.bytes b t, .str (PySem.Str.ofString "latin1") u]) Q E s := by
  refine callType_new PySem.F.called_str (by decide) (typeCall_str_2 _ _) (newCall_str_2 _ _) (fun obj => args_object_init_3 obj _ _) PySem.F.entry_str_new
    (S := fun _ R s => ∀ t' k, R (.ok (.ret (.str ⟨b.map UInt8.toNat⟩ t'))) { s with toks := k }) ?_ (fun t' k => ⟨typeIs_str _ _ _, h t' k⟩)
  refine .of_wp fun prog w A R s hS => ?_
  rw [new_eq]
  refine wpAny_bind (wpAny_mkStr ?_ (by decide))
  refine wpAny_bind (wpAny_rule (wpAny_bind (decode_kw hb fun t' k => wpAny_pure ⟨_, rfl, hS t' k⟩)))

theorem encode_call {x : PySem.Str} {t u : Tok} {Q : Value → Shared → Prop} (hb : x.cps.size ≤ sizeLine) (hx : ∀ c ∈ x.cps, c < 256) (h : ∀ t' k, Q (.bytes (x.cps.map Nat.toUInt8) t') { s with toks := k }) :
    wpAny (model prog w) A (call (.builtin "str.encode") [.str x t, .str (PySem.Str.ofString "latin1") u]) Q E s := by
  refine wpAny_call_entry PySem.F.slot_str_encode (typeIs_str _ _ _) PySem.F.entry_str_encode ?_ (PySem.F.args_str_encode_2 _ _)
  rw [enc_eq]
  refine wpAny_bind (wpAny_bind (encode_latin1 hb hx ?_))
  unfold mkBytes
  rw [if_neg (by simpa using hb)]
  refine wpAny_bind (wpAny_fresh (wpAny_pure (wpAny_pure ⟨_, rfl, h _ _⟩)))
end
end Mine

end
section
open PySem PySem.W PyProof.Rows PySem.Builtin PySem.Builtin.Str
namespace Mine
def tabOK (es : Array DictEntry) : Bool :=
  (es.toList.all fun e => match e.key with | .int k _ => decide (k < 128) && (e.hash == hashInt k) | _ => false) &&
  (List.range 128).all fun c => match findBy Value.isInt es (c : Int) with | none => !special c | some (.str y _) => special c && (y == ⟨#[92, c]⟩) | _ => false

theorem special_big {c : Nat} (h : 128 ≤ c) : special c = false := by
  unfold special
  simp
  omega

theorem tab_for {es : Array DictEntry} (ok : tabOK es = true) : TabFor (findBy Value.isInt es) := by
  unfold tabOK at ok
  rw [Bool.and_eq_true] at ok
  obtain ⟨h1, h2⟩ := ok
  intro c
  by_cases hc : c < 128
  · have := List.all_eq_true.mp h2 c (List.mem_range.mpr hc)
    revert this
    cases hf : findBy Value.isInt es (c : Int) with
    | none => intro h; exact .inl ⟨by simpa using h, rfl⟩
    | some v =>
      cases v with
      | str y u =>
        intro h
        rw [Bool.and_eq_true] at h
        exact .inr ⟨h.1, u, by rw [eq_of_beq h.2]⟩
      | _ => intro h; cases h
  · refine .inl ⟨special_big (by omega), ?_⟩
    unfold findBy
    have : es.find? (fun e => Value.isInt (c : Int) e.key) = none := by
      rw [Array.find?_eq_none]
      intro e he
      have := List.all_eq_true.mp h1 e (by simpa using he)
      revert this
      cases hk : e.key with
      | int k t =>
        intro h
        simp only [Bool.and_eq_true, decide_eq_true_eq] at h
        simp [Value.isInt]
        omega
      | _ => intro h; cases h
    rw [this]
    rfl

theorem tab_of {prog : Program} {w : World} {K : Frag} {h : Heap} {d : Addr} (X : K.In h) {es : Array DictEntry} {ep : Nat} (e : K.lookup d = some ⟨.type "dict", none, .dict es ep, #[]⟩) (ok : tabOK es = true) :
    h.MapOf (intKind prog w) d (findBy Value.isInt es) := by
  refine ⟨_, es, ep, X _ _ e, ⟨rfl, rfl, rfl⟩, rfl, ?_, fun k => rfl⟩
  intro en hen
  unfold tabOK at ok
  rw [Bool.and_eq_true] at ok
  have := List.all_eq_true.mp ok.1 en (by simpa using hen)
  revert this
  cases hk : en.key with
  | int k t =>
    intro h
    simp only [Bool.and_eq_true, decide_eq_true_eq] at h
    exact ⟨k, by simp [intKind, Value.isInt], eq_of_beq h.2⟩
  | _ => intro h; cases h

section
variable {M : Model} {A : Around} {E : Value → Shared → Prop} {s : Shared}
theorem gm_translate {x : PySem.Str} {t : Tok} {pl : Sem Bool} {Q : Value × List Value → Shared → Prop} (h : Q (.builtin "str.translate", [.str x t]) s) : wpAny M A (getMethod (.str x t) (PySem.Str.ofString "translate") pl) Q E s := by
  with_reducible exact PySem.GM.of (.str x t) (typeIs_str _ _ _) PySem.F.slot_str_translate PySem.F.type_str_translate PySem.GM.noRef h
theorem gm_encode {x : PySem.Str} {t : Tok} {pl : Sem Bool} {Q : Value × List Value → Shared → Prop} (h : Q (.builtin "str.encode", [.str x t]) s) : wpAny M A (getMethod (.str x t) (PySem.Str.ofString "encode") pl) Q E s := by
  with_reducible exact PySem.GM.of (.str x t) (typeIs_str _ _ _) PySem.F.slot_str_encode PySem.F.type_str_encode PySem.GM.noRef h
end
theorem tr_step {prog : Program} {w : World} {A : Around} {E : Value → Shared → Prop} {s : Shared} {K : Frag} {h₀ : Heap} {L : Addr} {m : PySem.Str → Option Value} {news : List (Addr × Obj)} {d : Addr} {x : PySem.Str} {t : Tok} {es : Array DictEntry} {ep : Nat} {Q : Value → Shared → Prop}
   (F : Fr h₀ L s.heap m) (N : News h₀ L s.heap news) (X : K.In h₀) (e : K.lookup d = some ⟨.type "dict", none, .dict es ep, #[]⟩) (ok : tabOK es = true) (hd : (d == sysModules) = false) (hA : A.handled = none) (hlen : 2 * x.cps.size ≤ sizeLine)
   (h : ∀ h' tk' t', Fr h₀ L h' m → News h₀ L h' news → Q (.str ⟨(esc x.cps.toList).toArray⟩ t') { s with heap := h', toks := tk' }) :
   wpAny (model prog w) A (call (.builtin "str.translate") [.str x t, .ref d]) Q E s :=
  translate_rule hA hd (tab_of (X.keeps F.keep) e ok) (tab_for ok) hlen fun h' tk' t' g => h h' tk' t' (F.keeps g) (N.grown g)

def octs (l : List Nat) : Array UInt8 := (l.map Nat.toUInt8).toArray
def cpsOf (b : Array UInt8) : List Nat := b.toList.map UInt8.toNat
theorem esc_small {l : List Nat} (h : ∀ c ∈ l, c < 256) : ∀ c ∈ esc l, c < 256 := by
  intro c hc
  obtain ⟨d, hd, hcd⟩ := List.mem_flatMap.mp hc
  unfold escC at hcd
  have := h d hd
  split at hcd
  · simp at hcd; omega
  · simp at hcd; omega

theorem special_iff {c : Nat} : special c = true ↔ ((9 ≤ c ∧ c ≤ 13) ∨ (40 ≤ c ∧ c ≤ 43) ∨ (91 ≤ c ∧ c ≤ 94) ∨ (123 ≤ c ∧ c ≤ 126) ∨ c = 32 ∨ c = 35 ∨ c = 36 ∨ c = 38 ∨ c = 45 ∨ c = 46 ∨ c = 63) := by
  unfold special
  simp only [Bool.or_eq_true, Bool.and_eq_true, decide_eq_true_eq, beq_iff_eq, or_assoc]
theorem int_is (n c : Nat) : ((n : Int) = (c : Int)) = (c = n) := propext ⟨fun h => (Int.ofNat.inj h).symm, fun h => by rw [h]⟩
theorem special_any {c : Nat} (h : ¬ ((9 ≤ c ∧ c ≤ 13) ∨ (40 ≤ c ∧ c ≤ 43) ∨ (91 ≤ c ∧ c ≤ 94) ∨ (123 ≤ c ∧ c ≤ 126))) : ([32, 35, 36, 38, 45, 46, 63].any fun x : Int => x == (c : Int)) = special c := by
  rw [Bool.eq_iff_iff, special_iff]
  simp only [List.any_cons, List.any_nil, Bool.or_false, Bool.or_eq_true, beq_iff_eq]
  have e : (((32 : Nat) : Int) = (c : Int) ∨ ((35 : Nat) : Int) = (c : Int) ∨ ((36 : Nat) : Int) = (c : Int) ∨ ((38 : Nat) : Int) = (c : Int) ∨ ((45 : Nat) : Int) = (c : Int) ∨ ((46 : Nat) : Int) = (c : Int) ∨ ((63 : Nat) : Int) = (c : Int)) ↔ (c = 32 ∨ c = 35 ∨ c = 36 ∨ c = 38 ∨ c = 45 ∨ c = 46 ∨ c = 63) := by
    simp only [int_is]
  constructor
  · intro h'
    exact .inr (.inr (.inr (.inr (e.mp h'))))
  · rintro (h' | h' | h' | h' | h')
    · exact absurd (.inl h') h
    · exact absurd (.inr (.inl h')) h
    · exact absurd (.inr (.inr (.inl h'))) h
    · exact absurd (.inr (.inr (.inr h'))) h
    · exact e.mpr h'
theorem News.tl {h₀ h : Heap} {L : Addr} {q : Addr × Obj} {news : List (Addr × Obj)} (N : News h₀ L h (q :: news)) : News h₀ L h news := fun p hp => N p (List.mem_cons_of_mem _ hp)
end Mine

end
section
open PySem PySem.W PyProof.Rows PySem.Spec PySem.Calls
namespace Mine

theorem ne_allLt {d : Addr} : ∀ {l : List (Addr × Obj)}, AllLt d l → ∀ p ∈ l, p.1 ≠ d
  | [], _, _, h => nomatch h
  | q :: _, x, p, h => by
    rcases List.mem_cons.mp h with rfl | h
    · exact Nat.ne_of_lt x.1
    · exact ne_allLt x.2 p h
theorem ne_lt {d : Addr} {l : List (Addr × Obj)} (h : ∀ p ∈ l, p.1 < d) : ∀ p ∈ l, p.1 ≠ d := fun p hp => Nat.ne_of_lt (h p hp)

/-- a claim of a def, with room for k frames -/
abbrev Claim (k : Nat) (prog : Program) (w : World) (K : Frag) (p : Program) (loose : List Str) (mean : ExcName → Option Value) (mg mb : Str → Option Value) (f : Addr) (news : List (Addr × Obj)) (vs : List Value) (R : Tok → Value) : Prop :=
  ∀ (dp un : Nat) (gd : Option (List Code)) (cn : Str) (cs : Scope) (a : Addr) (ccd : Value) (cl : List (Str × Addr)) (outer : List Env) (A₀ : Around) (base h₀ : Heap) (L : Addr) (m : Str → Option Value) (s : Shared) (Q E : Value → Shared → Prop),
    Below A₀ base outer h₀ → Fr h₀ L s.heap m → K.In h₀ → News h₀ L s.heap news → Top p loose mean mg mb h₀ → cs.kind = .function →
    dp + k < recursionLimit → un + 8 * k < cLine → (∀ (t : Tok) (h' : Heap) (tk' : Nat), Fr h₀ L h' m → News h₀ L h' news → Q (R t) { s with heap := h', toks := tk' }) →
      wpAny (model prog w) (ktrTop dp un gd cn cs L a ccd cl outer) (call (.ref f) vs) Q E s

theorem claim_use {k : Nat} {prog : Program} {w : World} {K : Frag} {p : Program} {loose : List Str} {mean : ExcName → Option Value} {mg mb : Str → Option Value} {f : Addr} {news : List (Addr × Obj)} {vs : List Value} {R : Tok → Value}
    {dp un : Nat} {gd : Option (List Code)} {cn : Str} {cs : Scope} {a : Addr} {ccd : Value} {cl : List (Str × Addr)} {outer : List Env} {A₀ : Around} {base h₀ : Heap} {L : Addr} {m : Str → Option Value} {s : Shared} {Q E : Value → Shared → Prop}
    (C : Claim k prog w K p loose mean mg mb f news vs R) (B : Below A₀ base outer h₀) (F : Fr h₀ L s.heap m) (X : K.In h₀) (N : News h₀ L s.heap news) (T : Top p loose mean mg mb h₀) (hk : cs.kind = .function)
    (hd : dp + k < recursionLimit) (hu : un + 8 * k < cLine) (ret : ∀ (t : Tok) (h' : Heap) (tk' : Nat), Fr h₀ L h' m → News h₀ L h' news → Q (R t) { s with heap := h', toks := tk' }) :
    wpAny (model prog w) (ktrTop dp un gd cn cs L a ccd cl outer) (call (.ref f) vs) Q E s := C _ _ _ _ _ _ _ _ _ _ _ _ _ _ _ _ _ B F X N T hk hd hu ret

/-- what a turn must show at its end -/
def TEnd (h₀ : Heap) (L : Addr) (J : (Str → Option Value) → List (Addr × Obj) → Prop) (I : Addr) (oI : Obj) (s₁ s₂ : Shared) : Prop :=
  ∃ h' tk m' news', s₂ = { s₁ with heap := h', toks := tk } ∧ Fr h₀ L h' m' ∧ News h₀ L h' ((I, oI) :: news') ∧ (∀ p ∈ news', p.1 ≠ I) ∧ J m' news'
def TPost (h₀ : Heap) (L : Addr) (J : (Str → Option Value) → List (Addr × Obj) → Prop) (I : Addr) (oI : Obj) (s₁ : Shared) (Q : Flow → Shared → Prop) (f : Flow) (s₂ : Shared) : Prop :=
  match f with
  | .ret v => Q (.ret v) s₂
  | .brk => Q .next s₂
  | _ => TEnd h₀ L J I oI s₁ s₂
section
variable {h₀ : Heap} {L : Addr} {J : (Str → Option Value) → List (Addr × Obj) → Prop} {I : Addr} {oI : Obj} {s₁ s₂ : Shared} {Q : Flow → Shared → Prop}
theorem TPost.next (h : TEnd h₀ L J I oI s₁ s₂) : TPost h₀ L J I oI s₁ Q .next s₂ := h
theorem TEnd.mk' {h' : Heap} {tk : Nat} {m' : Str → Option Value} {all news' : List (Addr × Obj)} (F : Fr h₀ L h' m') (N : News h₀ L h' all) (sub : ∀ p ∈ (I, oI) :: news', p ∈ all) (off : ∀ p ∈ news', p.1 ≠ I) (j : J m' news') :
    TEnd h₀ L J I oI s₁ { s₁ with heap := h', toks := tk } := ⟨h', tk, m', news', rfl, F, fun p hp => N p (sub p hp), off, j⟩
end

section
variable {prog : Program} {w : World} {A : Around} {E : Value → Shared → Prop} {s : Shared} {env : Env} {h₀ : Heap} {x : Str} {body : List Stmt} {Q : Flow → Shared → Prop}

theorem loop_of_walk {I : Addr} {n : Nat} {P : Nat → Value → Prop} {St : Nat → Heap → Prop} {o : Obj} {m₀ : Str → Option Value} {news : List (Addr × Obj)} (J : Nat → (Str → Option Value) → List (Addr × Obj) → Prop)
    (W : Walks prog w A I [I] [I] n P St) (alive : ∀ i h, St i h → ∃ o, h.get? I = some o) (hI : I = s.heap.objs.size) (hst : St 0 (s.heap.push o))
    (F : Fr h₀ env.locals s.heap m₀) (N : News h₀ env.locals s.heap news) (hj : J 0 m₀ news)
    (turn : ∀ i v m₁ news₁ h tk I oI, i < n → P i v → J i m₁ news₁ → (∀ p ∈ news₁, p.1 ≠ I) → Fr h₀ env.locals h (fun y => if y = x then some v else m₁ y) → News h₀ env.locals h ((I, oI) :: news₁) →
      wpAny (model prog w) A (execs body env) (TPost h₀ env.locals (J (i + 1)) I oI { s with heap := h, toks := tk } Q) E { s with heap := h, toks := tk })
    (done : ∀ m₁ news₁ h tk, J n m₁ news₁ → Fr h₀ env.locals h m₁ → News h₀ env.locals h news₁ → Q .next { s with heap := h, toks := tk }) :
    LoopAtV prog w A h₀ env x body Q E (.ref I) { s with heap := s.heap.push o } := by
  subst hI
  refine ⟨_, _, _, n, _, _, m₀, news, J, rfl, W, ?_, ?_, ?_, hst, F.push _, (fun p hp => ⟨Heap.get?_push_of_some _ (N p hp).1, (N p hp).2⟩), hj, ?_, ?_⟩
  · intro hm
    exact absurd F.ns.lt ((List.mem_singleton.mp hm) ▸ Nat.lt_irrefl _)
  · intro b hb
    rw [List.mem_singleton.mp hb]
    exact next_is_new F
  · intro p hp hI
    exact absurd (Heap.lt_size (N p hp).1) ((List.mem_singleton.mp hI) ▸ Nat.lt_irrefl _)
  · rintro i v m₁ news₁ s₁ own ⟨hh', tk', rfl⟩ hin hP hJ hoff hsub hget hall hst₁ F₁ N₁
    obtain ⟨oI, hoI⟩ := alive _ _ hst₁
    have hI₀ : h₀.get? s.heap.objs.size = none := next_is_new F
    have hmem : (s.heap.objs.size, oI) ∈ own := hall _ (List.mem_singleton.mpr rfl) hI₀ oI hoI
    have hown : ∀ p ∈ own, p = (s.heap.objs.size, oI) := fun p hp => by
      have h1 : p.1 = s.heap.objs.size := List.mem_singleton.mp (hsub p hp)
      have h2 := hget p hp
      rw [h1] at h2
      have h3 : some oI = some p.2 := hoI.symm.trans h2
      obtain ⟨p1, p2⟩ := p
      cases h1; cases h3; rfl
    have hoff' : ∀ p ∈ news₁, p.1 ≠ s.heap.objs.size := fun p hp e => hoff p hp (List.mem_singleton.mpr e)
    refine wpAny_mono (turn i v m₁ news₁ hh' tk' s.heap.objs.size oI hin hP hJ hoff' F₁ ?_) (fun f s₂ p => ?_) fun _ _ e => e
    · intro p hp
      rcases List.mem_cons.mp hp with rfl | hp
      · exact N₁ _ (List.mem_append_left _ hmem)
      · exact N₁ p (List.mem_append_right _ hp)
    have fin : TEnd h₀ env.locals (J (i + 1)) s.heap.objs.size oI { s with heap := hh', toks := tk' } s₂ → LoopStepU h₀ env.locals [s.heap.objs.size] own (J (i + 1)) { s with heap := hh', toks := tk' } .next s₂ := by
      rintro ⟨h', tk, m', news', e, F', N', off, hm⟩
      refine ⟨rfl, h', tk, m', news', e, F', fun p hp => ?_, fun p hp hI => off p hp (List.mem_singleton.mp hI), hm⟩
      rcases List.mem_append.mp hp with hp | hp
      · rw [hown p hp]; exact N' _ (List.mem_cons_self ..)
      · exact N' p (List.mem_cons_of_mem _ hp)
    cases f with
    | ret v => exact .ret p
    | brk => exact .brk p
    | next => exact .next (fin p)
    | cont => exact .cont (fin p)
  · rintro h' tk m' news' F' N' _ hJ
    exact done m' news' h' tk hJ F' N'

abbrev Inv := (Str → Option Value) → List (Addr × Obj) → Nat → (Str → Option Value) → List (Addr × Obj) → Prop

theorem iter_str {y : PySem.Str} {t : Tok} {m₀ : Str → Option Value} {news : List (Addr × Obj)} (J : Inv)
    (hh : A.handled = none) (F : Fr h₀ env.locals s.heap m₀) (N : News h₀ env.locals s.heap news) (hj : J m₀ news 0 m₀ news)
    (turn : ∀ i c u m₁ news₁ h tk I oI, y.cps.toList[i]? = some c → J m₀ news i m₁ news₁ → (∀ p ∈ news₁, p.1 ≠ I) → Fr h₀ env.locals h (fun z => if z = x then some (.str ⟨#[c]⟩ u) else m₁ z) → News h₀ env.locals h ((I, oI) :: news₁) →
      wpAny (model prog w) A (execs body env) (TPost h₀ env.locals (J m₀ news (i + 1)) I oI { s with heap := h, toks := tk } Q) E { s with heap := h, toks := tk })
    (done : ∀ m₁ news₁ h tk, J m₀ news y.cps.toList.length m₁ news₁ → Fr h₀ env.locals h m₁ → News h₀ env.locals h news₁ → Q .next { s with heap := h, toks := tk }) :
    wpAny (model prog w) A (pyIter (.str y t)) (fun it s₂ => LoopAtV prog w A h₀ env x body Q E it s₂) E s := by
  have turn' : ∀ i v m₁ news₁ h tk I oI, i < y.cps.size → SignAt y i v → J m₀ news i m₁ news₁ → (∀ p ∈ news₁, p.1 ≠ I) → Fr h₀ env.locals h (fun z => if z = x then some v else m₁ z) → News h₀ env.locals h ((I, oI) :: news₁) →
      wpAny (model prog w) A (execs body env) (TPost h₀ env.locals (J m₀ news (i + 1)) I oI { s with heap := h, toks := tk } Q) E { s with heap := h, toks := tk } := by
    rintro i v m₁ news₁ h tk I oI _ ⟨c, u, hc, rfl⟩ hJ off F' N'
    exact turn i c u m₁ news₁ h tk I oI (by simpa using hc) hJ off F' N'
  have done' : ∀ m₁ news₁ h tk, J m₀ news y.cps.size m₁ news₁ → Fr h₀ env.locals h m₁ → News h₀ env.locals h news₁ → Q .next { s with heap := h, toks := tk } := by simpa using done
  cases ha : y.cps.all (· < 128)
  · refine wpAny_pyIter_wide ha ?_
    exact loop_of_walk (J m₀ news) (Walks.strWide hh _ y t) (fun i h st => by obtain ⟨o, e, _⟩ := st; exact ⟨o, e⟩) rfl ⟨_, Heap.get?_push_size _ rfl, rfl, rfl⟩ F N hj turn' done'
  · refine wpAny_pyIter_ascii ha ?_
    exact loop_of_walk (J m₀ news) (Walks.strAscii hh _ y t) (fun i h st => by obtain ⟨o, e, _⟩ := st; exact ⟨o, e⟩) rfl ⟨_, Heap.get?_push_size _ rfl, rfl, rfl⟩ F N hj turn' done'

/-- a goal that the walk leaves alone -/
def Stop (P : Prop) : Prop := P
theorem stop_For {m : Str → Option Value} {px pos : Pos} {iter : Expr} (_F : Fr h₀ env.locals s.heap m) (hx : env.kindOf x = some .local)
    (hp : (env.scope.kind == .class || (env.scope.kind == .module && env.locals != env.globals)) = false)
    (h : wpAny (model prog w) A (eval iter env) (fun xv s₁ => Stop (wpAny (model prog w) A (pyIter xv) (fun it s₂ => LoopAtV prog w A h₀ env x body Q E it s₂) E s₁)) E s)
    (hs : ∀ x, foldedSetIterable iter env x = pure x := by intro _; rfl)
    (hE : PassesOwn (model prog w) A env E := by passes_own) :
    wpAny (model prog w) A (exec (.For (.Name x px) iter body [] pos) env) Q E s := For_invVF _F hx hp h hs
end
end Mine

end
section
open PySem PySem.W PyProof.Rows PySem.Spec PySem.Calls
namespace Mine
abbrev tx (l : List Nat) : PySem.Str := ⟨l.toArray⟩
theorem tx_len (l : List Nat) : (tx l).length = l.length := by simp [PySem.Str.length]
theorem tx_append (a b : List Nat) : tx a ++ tx b = tx (a ++ b) := by
  show PySem.Str.append _ _ = _
  simp [PySem.Str.append, tx]
theorem tx_cps (x : PySem.Str) : x = tx x.cps.toList := by simp [tx]
theorem tx_inj {a b : List Nat} (h : tx a = tx b) : a = b := by
  have : (tx a).cps.toList = (tx b).cps.toList := by rw [h]
  simpa using this
theorem map_self (m : Str → Option Value) (a : Str) : m = fun y => if y = a then m a else m y := by
  funext y
  by_cases h : y = a
  · subst h; simp
  · simp [h]
/-- texts with one between each two -/
def glue (sep : List Nat) : List (List Nat) → List Nat
  | [] => []
  | [x] => x
  | x :: r => x ++ sep ++ glue sep r
theorem join_tx (sep : List Nat) : ∀ ls : List (List Nat), Txt.join (tx sep) (ls.map tx) = tx (glue sep ls) := by
  intro ls
  show PySem.Builtin.Str.glued _ _ = _
  rw [PySem.StrLaws.glued_eq_join]
  induction ls with
  | nil => rfl
  | cons x r ih =>
    cases r with
    | nil => rfl
    | cons y r =>
      show tx x ++ tx sep ++ PySem.Str.join (tx sep) ((y :: r).map tx) = _
      rw [ih, tx_append, tx_append]
      rfl
theorem glue_nil : ∀ ls : List (List Nat), glue [] ls = ls.flatten
  | [] => rfl
  | [x] => by simp [glue]
  | x :: y :: r => by
    show x ++ [] ++ glue [] (y :: r) = _
    rw [glue_nil (y :: r)]
    simp
theorem ofString_nil : PySem.Str.ofString "" = tx [] := by decide +kernel
theorem ofString_bs : PySem.Str.ofString "\\" = tx [92] := by decide +kernel
section
variable {prog : Program} {w : World} {A : Around} {E : Value → Shared → Prop} {s : Shared} {Q : Value → Shared → Prop}
theorem iadd_rule {a b : PySem.Str} {t u : Tok} (hsz : a.cps.size + b.cps.size ≤ sizeLine) (h : ∀ t' k, Q (.str (tx (a.cps.toList ++ b.cps.toList)) t') { s with toks := k }) :
    wpAny (model prog w) A (inplaceOp .Add (.str a t) (.str b u)) Q E s := by
  have e : a ++ b = tx (a.cps.toList ++ b.cps.toList) := by
    rw [← tx_append, ← tx_cps, ← tx_cps]
  refine PyProof.Rows.iadd_str (fun t' tk => ?_) hsz
  rw [e]; exact h _ _
theorem join_rule {D : Addr} {items : Array Value} {t : Tok} {ls : List (List Nat)} (hl : s.heap.IsList D items) (hi : StrsAre items.toList (ls.map tx)) (hok : (ls.map (·.length)).sum ≤ 16777216)
    (h : ∀ t' k, Q (.str (tx ls.flatten) t') { s with toks := k }) : wpAny (model prog w) A (call (.builtin "str.join") [.str (PySem.Str.ofString "") t, .ref D]) Q E s := by
  rw [ofString_nil]
  refine join_list hl hi ?_ fun t' k => ?_
  · rw [List.map_map]
    have : (ls.map ((·.length) ∘ tx)) = ls.map (·.length) := by
      apply List.map_congr_left; intro l _; exact tx_len l
    rw [this]
    simpa [PySem.Str.length] using hok
  · rw [join_tx, glue_nil]
    exact h t' k
end

theorem map_over {m : Str → Option Value} {a : Str} {v v0 : Option Value} : (fun z => if z = a then v else (fun y => if y = a then v0 else m y) z) = fun y => if y = a then v else m y := by
  funext z
  by_cases h : z = a <;> simp [h]

theorem mod_val {prog : Program} {w : World} {A : Around} {E : Value → Shared → Prop} {s : Shared} {Q : Value → Shared → Prop} {a b k : Int} {t u : Tok} (e : a.fmod b = k) (hb : b ≠ 0) (h : ∀ t' tk, Q (.int k t') { s with toks := tk }) :
    wpAny (model prog w) A (binaryOp .Mod (.int a t) (.int b u)) Q E s := by
  subst e
  exact mod_int' hb (h _ _)
end Mine

end
section
open PySem PySem.W PyProof.Rows PySem.Spec PySem.Calls
namespace Mine
/-- two lists, item by item -/
inductive All2 {α β : Type} (R : α → β → Prop) : List α → List β → Prop
  | nil : All2 R [] []
  | cons {a b l r} : R a b → All2 R l r → All2 R (a :: l) (b :: r)
theorem All2.snoc {α β : Type} {R : α → β → Prop} {a : α} {b : β} (h : R a b) : ∀ {l r}, All2 R l r → All2 R (l ++ [a]) (r ++ [b])
  | _, _, .nil => .cons h .nil
  | _, _, .cons h' t => .cons h' (t.snoc h)
theorem All2.len {α β : Type} {R : α → β → Prop} : ∀ {l : List α} {r : List β}, All2 R l r → r.length = l.length
  | _, _, .nil => rfl
  | _, _, .cons _ t => by simp [t.len]
theorem All2.strs {α : Type} {g : α → List Nat} : ∀ {l : List α} {r : List Value}, All2 (fun a y => ∃ t, y = .str (tx (g a)) t) l r → StrsAre r ((l.map g).map tx)
  | _, _, .nil => .nil
  | _, _, .cons ⟨t, h⟩ r => by subst h; exact .cons _ t r.strs
theorem All2.ints {α : Type} {g : α → Int} : ∀ {l : List α} {r : List Value}, All2 (fun a y => ∃ t, y = .int (g a) t) l r → IntsAre r (l.map g)
  | _, _, .nil => .nil
  | _, _, .cons ⟨t, h⟩ r => by subst h; exact .cons _ t r.ints

/-- an element's end: the ledger stands as it stood -/
def CEnd (h₀ : Heap) (L : Addr) (m : Str → Option Value) (s₁ : Shared) (news : List (Addr × Obj)) (R : Value → Prop) (y : Value) (s₂ : Shared) : Prop :=
  ∃ h' tk, s₂ = { s₁ with heap := h', toks := tk } ∧ Fr h₀ L h' m ∧ News h₀ L h' news ∧ R y
theorem CEnd.mk' {h₀ h' : Heap} {L : Addr} {m : Str → Option Value} {s₁ : Shared} {news all : List (Addr × Obj)} {R : Value → Prop} {y : Value} {tk : Nat} (F : Fr h₀ L h' m) (N : News h₀ L h' all) (sub : ∀ p ∈ news, p ∈ all) (r : R y) :
    CEnd h₀ L m s₁ news R y { s₁ with heap := h', toks := tk } := ⟨h', tk, rfl, F, fun p hp => N p (sub p hp), r⟩

section
variable {prog : Program} {w : World} {A : Around} {E : Value → Shared → Prop} {s : Shared} {h₀ : Heap} {L : Addr} {m : Str → Option Value} {env : Env}

abbrev Turn {α : Type} (prog : Program) (w : World) (A : Around) (h₀ : Heap) (L : Addr) (m : Str → Option Value) (env : Env) (elt : Expr) (x : Str) (scope : Scope) (cl : List (Str × Addr)) (s : Shared) (its : List α) (P R : α → Value → Prop) (news : List (Addr × Obj)) : Prop :=
  ∀ (a : α) (v : Value) (I : Addr) (oI : Obj) (C : Addr) (oC : Obj) (D : Addr) (m₂ : Str → Option Value) (ys : List Value) (h : Heap) (tk : Nat) (E' : Value → Shared → Prop), a ∈ its → P a v → LCg.NsObj oC m₂ → m₂ x = some v → Fr h₀ L h m → News h₀ L h ((I, oI) :: (C, oC) :: (D, LCg.lst ys) :: news) → LCg.Off3 I C D news → ((@Ne Nat I C) ∧ (@Ne Nat I D) ∧ (@Ne Nat C D)) →
    wpAny (model prog w) A (eval elt (compEnvC scope cl C env)) (CEnd h₀ L m { s with heap := h, toks := tk } ((I, oI) :: (C, oC) :: (D, LCg.lst ys) :: news) (R a)) E' { s with heap := h, toks := tk }

theorem comp_rest {α : Type} {elt : Expr} {x : Str} {scope : Scope} {cl : List (Str × Addr)} {S : List (Addr × Obj) → Prop} {P' : Nat → Value → Prop} {Fin : List Value → List (Addr × Obj) → Prop} {news : List (Addr × Obj)} {its : List α} {P R : α → Value → Prop}
    (hP : ∀ i v, P' i v → ∃ a, its[i]? = some a ∧ P a v) (hS : S news) (turn : Turn prog w A h₀ L m env elt x scope cl s its P R news) (fin : ∀ ys, All2 R its ys → Fin ys news) : LCg.CompRest prog w A h₀ L m env elt x scope cl s S P' Fin its.length 0 [] news := by
  have key : ∀ (j i : Nat) (ys : List Value), i + j = its.length → All2 R (its.take i) ys → LCg.CompRest prog w A h₀ L m env elt x scope cl s S P' Fin j i ys news := by
    intro j
    induction j with
    | zero =>
      intro i ys hi hy
      have e : i = its.length := by omega
      subst e
      rw [List.take_length] at hy
      exact LCg.CompRest.zero (fin ys hy)
    | succ j ih =>
      intro i ys hi hy
      refine LCg.CompRest.succ ?_
      intro v I oI C oC D m₂ h tk E' hv hC hx F N off ne
      obtain ⟨a, ha, hv'⟩ := hP i v hv
      refine wpAny_mono (turn a v I oI C oC D m₂ ys h tk E' (List.mem_of_getElem? ha) hv' hC hx F N off ne) (fun y s₂ hq => ?_) fun _ _ e => e
      obtain ⟨h', tk', e, F', N', hr⟩ := hq
      refine ⟨h', tk', news, e, F', N', off, hS, ih (i + 1) _ (by omega) ?_⟩
      rw [List.take_add_one, ha]
      exact hy.snoc hr
  exact key _ 0 [] (by omega) .nil

/-- what an iterator must bring so that the comprehension runs -/
def CompAt (prog : Program) (w : World) (A : Around) (h₀ : Heap) (L : Addr) (m : Str → Option Value) (env : Env) (elt : Expr) (x : Str) (scope : Scope) (cl : List (Str × Addr)) (Q : Value → Shared → Prop) (it : Value) (s₂ : Shared) : Prop :=
  ∃ (I : Addr) (fp : List Addr) (n : Nat) (P : Nat → Value → Prop) (St : Nat → Heap → Prop) (S : List (Addr × Obj) → Prop) (news : List (Addr × Obj)), it = .ref I ∧ Walks prog w A I fp [I] n P St ∧ n ≤ sizeLine ∧ (∀ i h, St i h → ∃ o, h.get? I = some o) ∧
    (∀ i h h' o nw, St i h → h.get? I = some o → h'.get? I = some o → (∀ b o, h₀.get? b = some o → h'.get? b = some o) → News h₀ L h' nw → S nw → St i h') ∧ St 0 s₂.heap ∧ (∀ b ∈ fp, b < s₂.heap.objs.size) ∧ Fr h₀ L s₂.heap m ∧ News h₀ L s₂.heap news ∧ L ≠ I ∧ h₀.get? I = none ∧ (∀ p ∈ news, p.1 ≠ I) ∧ S news ∧
    LCg.CompRest prog w A h₀ L m env elt x scope cl s₂ S P (LCg.FinE h₀ L m s₂ Q) n 0 [] news

theorem comp_stop {elt iter : Expr} {x : Str} {px : Pos} {scope : Scope} {cl : List (Str × Addr)} {pos : Pos} {Q : Value → Shared → Prop} (_F₀ : Fr h₀ L s.heap m)
    (hclos : closureFor scope env = pure cl) (hcell : ∀ y ∈ scope.names, y.2 ≠ .cell) (hkind : scope.kind = .function)
    (hnames : ∀ y ∈ scope.names, y.2 = .local → scope.names.lookup y.1 = some .local) (hx : scope.names.lookup x = some .local)
    (h : wpAny (model prog w) A (eval iter env) (fun xv s₁ => Stop (wpAny (model prog w) A (pyIter xv) (fun it s₂ => CompAt prog w A h₀ L m env elt x scope cl Q it s₂) E s₁)) E s)
    (hs : ∀ x, foldedSetIterable iter env x = pure x := by intro _; rfl) :
    wpAny (model prog w) A (eval (.ListComp elt [⟨.Name x px, iter, [], 0⟩] scope pos) env) Q E s := by
  rw [eval_ListComp]
  refine wpAny_comprehension_free (use := none) rfl hs hclos hkind hnames (wpAny_mono h (fun xv s₁ h₁ => wpAny_mono h₁ (fun it s₂ h₂ => ?_) fun _ _ e => e) fun _ _ e => e)
  obtain ⟨I, fp, n, P, St, S, news, rfl, W, hsz, hIo, hSt, hst, hfp, F, N, hIL, hI₀, off, hS, R⟩ := h₂
  refine LCg.block_U W hsz hIo hSt hcell hkind hx hst hfp F N hIL hI₀ off hS R ?_
  intro D C h tk m' ys news' F' N' o1 hn hC₀ hD₀ hCL hDL hCD offC fin
  refine ⟨m', hn, fun h'' hs'' => fin D h'' tk (F'.change hs'' hCL hC₀) (fun p hp => ?_) o1⟩
  refine ⟨hs''.extBut _ _ ?_ (N' p hp).1, (N' p hp).2⟩
  rcases List.mem_cons.mp hp with rfl | hp
  · exact Ne.symm hCD
  · exact offC p hp

theorem comp_walk {α : Type} {I : Addr} {o : Obj} {elt : Expr} {x : Str} {scope : Scope} {cl : List (Str × Addr)} {Q : Value → Shared → Prop} {P' : Nat → Value → Prop} {St : Nat → Heap → Prop} {news : List (Addr × Obj)} {its : List α} {P R : α → Value → Prop}
    (W : Walks prog w A I [I] [I] its.length P' St) (hI : I = s.heap.objs.size) (hsz : its.length ≤ sizeLine) (alive : ∀ i h, St i h → ∃ o, h.get? I = some o)
    (hSt : ∀ i h h' o, St i h → h.get? I = some o → h'.get? I = some o → St i h') (hst : St 0 (s.heap.push o)) (F : Fr h₀ L s.heap m) (N : News h₀ L s.heap news)
    (hP : ∀ i v, P' i v → ∃ a, its[i]? = some a ∧ P a v) (turn : Turn prog w A h₀ L m env elt x scope cl s its P R news)
    (fin : ∀ ys D h tk, All2 R its ys → Fr h₀ L h m → News h₀ L h ((D, LCg.lst ys) :: news) → LCg.Off1 D news → Q (.ref D) { s with heap := h, toks := tk }) :
    CompAt prog w A h₀ L m env elt x scope cl Q (.ref I) { s with heap := s.heap.push o } := by
  subst hI
  refine ⟨_, _, its.length, _, _, fun _ => True, news, rfl, W, hsz, alive, fun i h h' o nw a b c _ _ _ => hSt i h h' o a b c, hst, ?_, F.push _, (fun p hp => ⟨Heap.get?_push_of_some _ (N p hp).1, (N p hp).2⟩), Nat.ne_of_lt F.ns.lt, next_is_new F, (fun p hp => Nat.ne_of_lt (Heap.lt_size (N p hp).1)), trivial, ?_⟩
  · intro b hb
    rw [List.mem_singleton.mp hb]
    show s.heap.objs.size < (s.heap.push _).objs.size
    rw [Heap.size_push]; exact Nat.lt_succ_self _
  · refine comp_rest (R := R) hP trivial ?_ ?_
    · intro a v I oI C oC D m₂ ys h tk E' ha hv hC hx F N off ne
      exact turn a v I oI C oC D m₂ ys h tk E' ha hv hC hx F N off ne
    · intro ys hy D h tk F' N' o1
      exact fin ys D h tk hy F' N' o1

theorem comp_str {y : PySem.Str} {t : Tok} {elt : Expr} {x : Str} {scope : Scope} {cl : List (Str × Addr)} {Q : Value → Shared → Prop} {news : List (Addr × Obj)} {R : Nat → Value → Prop}
    (hh : A.handled = none) (F : Fr h₀ L s.heap m) (N : News h₀ L s.heap news) (hsz : y.cps.size ≤ sizeLine)
    (turn : Turn prog w A h₀ L m env elt x scope cl s y.cps.toList (fun c v => ∃ u, v = .str ⟨#[c]⟩ u) R news)
    (fin : ∀ ys D h tk, All2 R y.cps.toList ys → Fr h₀ L h m → News h₀ L h ((D, LCg.lst ys) :: news) → LCg.Off1 D news → Q (.ref D) { s with heap := h, toks := tk }) :
    wpAny (model prog w) A (pyIter (.str y t)) (fun it s₂ => CompAt prog w A h₀ L m env elt x scope cl Q it s₂) E s := by
  have hP : ∀ i v, SignAt y i v → ∃ a, y.cps.toList[i]? = some a ∧ ∃ u, v = .str ⟨#[a]⟩ u := by
    rintro i v ⟨c, u, hc, rfl⟩
    exact ⟨c, by simpa using hc, u, rfl⟩
  cases ha : y.cps.all (· < 128)
  · refine wpAny_pyIter_wide ha ?_
    have W := Walks.strWide (prog := prog) (w := w) hh s.heap.objs.size y t
    rw [show y.cps.size = y.cps.toList.length from Array.length_toList.symm] at W
    refine comp_walk W rfl (by simpa using hsz) (fun i h st => by obtain ⟨o, e, _⟩ := st; exact ⟨o, e⟩) ?_ ⟨_, Heap.get?_push_size _ rfl, rfl, rfl⟩ F N hP turn fin
    rintro i h h' o ⟨o', e, r⟩ e1 e2
    rw [e1] at e; cases e
    exact ⟨o, e2, r⟩
  · refine wpAny_pyIter_ascii ha ?_
    have W := Walks.strAscii (prog := prog) (w := w) hh s.heap.objs.size y t
    rw [show y.cps.size = y.cps.toList.length from Array.length_toList.symm] at W
    refine comp_walk W rfl (by simpa using hsz) (fun i h st => by obtain ⟨o, e, _⟩ := st; exact ⟨o, e⟩) ?_ ⟨_, Heap.get?_push_size _ rfl, rfl, rfl⟩ F N hP turn fin
    rintro i h h' o ⟨o', e, r⟩ e1 e2
    rw [e1] at e; cases e
    exact ⟨o, e2, r⟩

theorem comp_bytes {b : Array UInt8} {t : Tok} {elt : Expr} {x : Str} {scope : Scope} {cl : List (Str × Addr)} {Q : Value → Shared → Prop} {news : List (Addr × Obj)} {R : UInt8 → Value → Prop}
    (hh : A.handled = none) (F : Fr h₀ L s.heap m) (N : News h₀ L s.heap news) (hsz : b.size ≤ sizeLine)
    (turn : Turn prog w A h₀ L m env elt x scope cl s b.toList (fun c v => ∃ u, v = .int (c.toNat : Int) u) R news)
    (fin : ∀ ys D h tk, All2 R b.toList ys → Fr h₀ L h m → News h₀ L h ((D, LCg.lst ys) :: news) → LCg.Off1 D news → Q (.ref D) { s with heap := h, toks := tk }) :
    wpAny (model prog w) A (pyIter (.bytes b t)) (fun it s₂ => CompAt prog w A h₀ L m env elt x scope cl Q it s₂) E s := by
  refine KBw.pyIter_bytes ?_
  have W := KBw.walks (prog := prog) (w := w) hh s.heap.objs.size b t
  rw [show b.size = b.toList.length from Array.length_toList.symm] at W
  refine comp_walk W rfl (by simpa using hsz) (fun i h st => by obtain ⟨o, e, _⟩ := st; exact ⟨o, e⟩) ?_ ⟨_, Heap.get?_push_size _ rfl, rfl, rfl⟩ F N ?_ turn fin
  · rintro i h h' o ⟨o', e, r⟩ e1 e2
    rw [e1] at e; cases e
    exact ⟨o, e2, r⟩
  · rintro i v ⟨c, u, hc, rfl⟩
    exact ⟨c, by simpa using hc, u, rfl⟩



end
section
variable {prog : Program} {w : World} {A : Around} {E : Value → Shared → Prop} {s : Shared} {env : Env} {h₀ : Heap} {x : Str} {body : List Stmt} {Q : Flow → Shared → Prop}
end

theorem byteArr_nat (l : List Nat) : byteArr (l.map Int.ofNat) = octs l := by
  simp [byteArr, octs]
theorem bytes_rule {prog : Program} {w : World} {A : Around} {E : Value → Shared → Prop} {s : Shared} {h₀ : Heap} {L D : Addr} {m : Str → Option Value} {news : List (Addr × Obj)} {vs : List Value} {l : List Nat} {Q : Value → Shared → Prop}
    (F : Fr h₀ L s.heap m) (N : News h₀ L s.heap news) (hh : A.handled = none) (hl : s.heap.IsList D vs.toArray) (hi : IntsAre vs (l.map Int.ofNat)) (hr : ∀ c ∈ l, c < 256) (hn : l.length ≤ 16777216)
    (h : ∀ h' t' k, Fr h₀ L h' m → News h₀ L h' news → Q (.bytes (octs l) t') { s with heap := h', toks := k }) : wpAny (model prog w) A (call (.type "bytes") [.ref D]) Q E s := by
  refine KBa.make_K F N hh hl hi ?_ (by simpa using hn) fun h' t' k F' N' _ => ?_
  · intro n hn
    obtain ⟨c, hc, rfl⟩ := List.mem_map.mp hn
    have := hr c hc
    exact ⟨Int.natCast_nonneg _, by show ((c : Nat) : Int) < 256; omega⟩
  · rw [byteArr_nat]; exact h h' t' k F' N'

theorem flat_ones {α : Type} (g : α → Nat) : ∀ l : List α, (l.map (fun a => [g a])).flatten = l.map g
  | [] => rfl
  | a :: l => by simp [flat_ones g l]
theorem sum_ones {α : Type} (g : α → Nat) : ∀ l : List α, ((l.map (fun a => [g a])).map (·.length)).sum = l.length
  | [] => rfl
  | a :: l => by simp only [List.map_cons, List.sum_cons, sum_ones g l]; simp; omega
theorem join_ones {prog : Program} {w : World} {A : Around} {E : Value → Shared → Prop} {s : Shared} {α : Type} {g : α → Nat} {l : List α} {D : Addr} {ys : List Value} {t : Tok} {Q : Value → Shared → Prop} (hl : s.heap.IsList D ys.toArray) (hy : All2 (fun a y => ∃ t, y = .str (tx [g a]) t) l ys) (hn : l.length ≤ 16777216)
    (h : ∀ t' k, Q (.str (tx (l.map g)) t') { s with toks := k }) : wpAny (model prog w) A (call (.builtin "str.join") [.str (PySem.Str.ofString "") t, .ref D]) Q E s := by
  refine join_rule (ls := l.map (fun a => [g a])) hl hy.strs (by rw [sum_ones]; exact hn) fun t' k => ?_
  rw [flat_ones]; exact h t' k

theorem comp_tx {prog : Program} {w : World} {A : Around} {E : Value → Shared → Prop} {s : Shared} {h₀ : Heap} {L : Addr} {m : Str → Option Value} {env : Env} {l : List Nat} {t : Tok} {elt : Expr} {x : Str} {scope : Scope} {cl : List (Str × Addr)} {Q : Value → Shared → Prop} {news : List (Addr × Obj)} (R : Nat → Value → Prop)
    (hh : A.handled = none) (F : Fr h₀ L s.heap m) (N : News h₀ L s.heap news) (hsz : l.length ≤ sizeLine)
    (turn : Turn prog w A h₀ L m env elt x scope cl s l (fun c v => ∃ u, v = .str ⟨#[c]⟩ u) R news)
    (fin : ∀ ys D h tk, All2 R l ys → Fr h₀ L h m → News h₀ L h ((D, LCg.lst ys) :: news) → LCg.Off1 D news → Q (.ref D) { s with heap := h, toks := tk }) :
    wpAny (model prog w) A (pyIter (.str (tx l) t)) (fun it s₂ => CompAt prog w A h₀ L m env elt x scope cl Q it s₂) E s :=
  comp_str hh F N (by simpa using hsz) turn fin

end Mine

end
section
open PySem PySem.W PyProof.Rows
namespace Mine
theorem cpsOf_octs {l : List Nat} (h : ∀ c ∈ l, c < 256) : cpsOf (octs l) = l := by
  unfold cpsOf octs
  show (l.map Nat.toUInt8).map UInt8.toNat = l
  rw [List.map_map]
  conv => rhs; rw [← List.map_id l]
  apply List.map_congr_left
  intro c hc
  have := h c hc
  show c.toUInt8.toNat = c
  simp
  omega
end Mine

end
section
open PySem PySem.W PyProof.Rows
namespace Mine
section
variable {α : Type} [DecidableEq α]

end

theorem escC_sp {c : Nat} (h : special c = true) : escC c = [92, c] := by unfold escC; rw [if_pos h]
theorem escC_no {c : Nat} (h : special c = false) : escC c = [c] := by unfold escC; rw [if_neg (by rw [h]; decide)]
theorem sp92 : special 92 = true := by decide
end Mine

end
section
open PySem PySem.W PyProof.Rows
namespace Mine
theorem runs_toks {M : Model} {Γ : Ctx} {p : Pos} {t : Sem PySem.Fin} {fs : List Frame} {s : Shared} {e : End} {s' : Shared} (h : Runs M Γ p t fs s e s') : s.toks ≤ s'.toks := by
  induction h
  all_goals first | assumption | exact Nat.le_refl _ | (simp only [Shared.setGen] at *; omega) | omega
theorem wakes_toks {M : Model} {Γ : Ctx} {p : Pos} {g : Nat} {r : Resume} {s : Shared} {res : GenResult} {s' : Shared} (h : Wakes M Γ p g r s res s') : s.toks ≤ s'.toks := by
  unfold Wakes at h
  split at h
  · exact h.elim
  · split at h
    · obtain ⟨e₁, s₁, hr, _, _, rfl⟩ := h
      have := runs_toks hr
      exact this
    · rw [h.2]; exact Nat.le_refl _
    · rw [h.2]; exact Nat.le_refl _
  · obtain ⟨e₁, s₁, hr, _, _, rfl⟩ := h
    have := runs_toks hr
    exact this
  · rw [h.2]; exact Nat.le_refl _
  · rw [h.2]; exact Nat.le_refl _
theorem wp_toks {α : Type} {M : Model} {Γ : Ctx} {n : Nat} (t : Sem α) {Q : α → Pos → Shared → Prop} {E : Value → Pos → Shared → Prop} (p : Pos) (s : Shared) (hn : n ≤ s.toks)
    (h : Sem.wp M Γ t (fun a p' s' => n ≤ s'.toks → Q a p' s') (fun e p' s' => n ≤ s'.toks → E e p' s') p s) : Sem.wp M Γ t Q E p s := by
  induction t generalizing p s with
  | pure a => exact h hn
  | raise e => exact h hn
  | unsupported _ => exact h
  | finish _ => exact h
  | rule _ k ih => exact ih () _ _ hn h
  | «at» _ k ih => exact ih () _ _ hn h
  | load a _ k ih => obtain ⟨o, ho, h⟩ := h; exact ⟨o, ho, ih o _ _ hn h⟩
  | update a _ f k ih => exact ⟨h.1, ih () _ _ hn h.2⟩
  | alloc o k ih => exact ih _ _ _ hn h
  | loadIfAlive a k ih => exact ih _ _ _ hn h
  | point _ k ih => exact ih () _ _ hn h
  | register _ _ _ => exact h
  | fresh k ih => exact ih _ _ _ (Nat.le_succ_of_le hn) h
  | ask k ih => exact ih _ _ _ hn h
  | choose _ _ k ih => exact ⟨h.1, ih _ _ _ hn h.2⟩
  | os _ _ k ih => exact ih _ _ _ hn h
  | call c hd g l k ih =>
    obtain ⟨r, s', hr, h⟩ := h
    exact ⟨r, s', hr, ih r _ _ (Nat.le_trans hn (runs_toks hr)) h⟩
  | handled _ k ih => exact ih _ _ _ hn h
  | newGen _ k ih => exact ih _ _ _ hn h
  | genState _ k ih => obtain ⟨st, hs, h⟩ := h; exact ⟨st, hs, ih _ _ _ hn h⟩
  | resume _ _ _ k ih =>
    obtain ⟨res, s', hr, h⟩ := h
    exact ⟨res, s', hr, ih res _ _ (Nat.le_trans hn (wakes_toks hr)) h⟩
  | yield _ _ _ _ _ => exact h
  | stack k ih => exact ih _ _ _ hn h
  | fork _ _ _ => exact h
  | thread k ih => exact ih _ _ _ hn h
  | await _ _ _ _ _ _ => exact h
/-- the count of tokens never falls -/
theorem wpAny_toks {α : Type} {M : Model} {A : Around} {t : Sem α} {Q : α → Shared → Prop} {E : Value → Shared → Prop} {s : Shared}
    (h : wpAny M A t (fun a s' => s.toks ≤ s'.toks → Q a s') E s) : wpAny M A t Q E s := fun Γ p hΓ => by
  refine wp_toks (n := s.toks) t p s (Nat.le_refl _) ?_
  exact Sem.wp_mono M Γ t (fun _ _ _ h => h) (fun (e : Value) (_ : Pos) (s' : Shared) (h : E e s') (_ : s.toks ≤ s'.toks) => h) p s (h Γ p hΓ)
end Mine

end
section
open PySem PySem.W PyProof.Rows PySem.Spec PySem.Calls
namespace Mine
/-- an end within a comprehension: the three objects of its own stand, the ledger may have grown -/
def GEnd (h₀ : Heap) (L : Addr) (m : Str → Option Value) (s₁ : Shared) (I : Addr) (oI : Obj) (C D : Addr) (oD : Obj) (K : List (Addr × Obj) → Nat → Prop) (s₂ : Shared) : Prop :=
  ∃ h' tk oC m' news', s₂ = { s₁ with heap := h', toks := tk } ∧ Fr h₀ L h' m ∧ News h₀ L h' ((I, oI) :: (C, oC) :: (D, oD) :: news') ∧ LCg.Off3 I C D news' ∧ LCg.NsObj oC m' ∧ K news' tk
theorem GEnd.mk' {h₀ h' : Heap} {L : Addr} {m : Str → Option Value} {s₁ : Shared} {I C D : Addr} {oI oC oD : Obj} {K : List (Addr × Obj) → Nat → Prop} {tk : Nat} {m' : Str → Option Value} {news' all : List (Addr × Obj)} (F : Fr h₀ L h' m) (N : News h₀ L h' all)
    (sub : ∀ p ∈ (I, oI) :: (C, oC) :: (D, oD) :: news', p ∈ all) (off : LCg.Off3 I C D news') (hC : LCg.NsObj oC m') (k : K news' tk) : GEnd h₀ L m s₁ I oI C D oD K { s₁ with heap := h', toks := tk } :=
  ⟨h', tk, oC, m', news', rfl, F, fun p hp => N p (sub p hp), off, hC, k⟩

abbrev testsOf (ifs : List Expr) (env : Env) : Sem Bool := forIn ifs true fun c r => if r = true then do let ok ← isTrue c env (eval c env); pure (ForInStep.yield ok) else pure (ForInStep.yield r)

section
variable {prog : Program} {w : World} {A : Around} {E : Value → Shared → Prop} {s : Shared} {h₀ : Heap} {L : Addr} {m : Str → Option Value} {env : Env}

abbrev GTurn (prog : Program) (w : World) (A : Around) (h₀ : Heap) (L : Addr) (m : Str → Option Value) (env : Env) (elt target : Expr) (ifs : List Expr) (scope : Scope) (cl : List (Str × Addr)) (s : Shared) (n : Nat) (P : Nat → Value → Prop) (J : Nat → List Value → List (Addr × Obj) → Nat → Prop) : Prop :=
  ∀ (i : Nat) (v : Value) (ys : List Value) (news : List (Addr × Obj)) (I : Addr) (oI : Obj) (C : Addr) (oC : Obj) (D : Addr) (m' : Str → Option Value) (h : Heap) (t₀ tk : Nat) (E' : Value → Shared → Prop), i < n → P i v → J i ys news t₀ → t₀ ≤ tk → LCg.NsObj oC m' → Fr h₀ L h m → News h₀ L h ((I, oI) :: (C, oC) :: (D, LCg.lst ys) :: news) → LCg.Off3 I C D news → ((@Ne Nat I C) ∧ (@Ne Nat I D) ∧ (@Ne Nat C D)) → C ≠ L →
    wpAny (model prog w) A (assign target (compEnvC scope cl C env) v) (fun _ s₃ => wpAny (model prog w) A (testsOf ifs (compEnvC scope cl C env)) (fun ok s₄ =>
      if ok = true then wpAny (model prog w) A (eval elt (compEnvC scope cl C env)) (fun y s₅ => GEnd h₀ L m { s with heap := h, toks := tk } I oI C D (LCg.lst ys) (fun news' tk' => J (i + 1) (ys ++ [y]) news' tk') s₅) E' s₄
      else GEnd h₀ L m { s with heap := h, toks := tk } I oI C D (LCg.lst ys) (fun news' tk' => J (i + 1) ys news' tk') s₄) E' s₃) E' { s with heap := h, toks := tk }

theorem block_G {elt target iter : Expr} {ifs : List Expr} {scope : Scope} {cl : List (Str × Addr)} {pos : Pos} {I : Addr} {fp : List Addr} {n : Nat} {P : Nat → Value → Prop} {St : Nat → Heap → Prop} {S : List (Addr × Obj) → Prop} {news : List (Addr × Obj)} {RR : Value → Addr → Result → Shared → Prop}
    (J : Nat → List Value → List (Addr × Obj) → Nat → Prop)
    (W : Walks prog w A I fp [I] n P St) (hsz : n ≤ sizeLine) (hIo : ∀ i h, St i h → ∃ o, h.get? I = some o)
    (hSt : ∀ i h h' o nw, St i h → h.get? I = some o → h'.get? I = some o → (∀ b o, h₀.get? b = some o → h'.get? b = some o) → News h₀ L h' nw → S nw → St i h')
    (hJS : ∀ i ys nw t, J i ys nw t → S nw) (hJl : ∀ i ys nw t, J i ys nw t → ys.length ≤ i) (hJt : ∀ i ys nw t t', J i ys nw t → t ≤ t' → J i ys nw t')
    (hcell : ∀ y ∈ scope.names, y.2 ≠ .cell) (hkind : scope.kind = .function) (hst : St 0 s.heap) (hfp : ∀ b ∈ fp, b < s.heap.objs.size)
    (F : Fr h₀ L s.heap m) (N : News h₀ L s.heap news) (hIL : L ≠ I) (hI₀ : h₀.get? I = none) (off : ∀ p ∈ news, p.1 ≠ I) (hJ : J 0 [] news s.toks)
    (turn : GTurn prog w A h₀ L m env elt target ifs scope cl s n P J) (ht : ∀ v, letOwnedTupleGo target (.ref I) v = pure ())
    (hRR : ∀ D C h tk m' ys news', Fr h₀ L h m → News h₀ L h ((D, LCg.lst ys) :: news') → LCg.Off1 D news' → h.Ns C m' → h₀.get? C = none → C ≠ L → C ≠ D → (∀ p ∈ news', p.1 ≠ C) → J n ys news' tk → RR (.ref D) C (.ok .next) { s with heap := h, toks := tk }) :
    wpAny (model prog w) A (newList []) (fun acc s₃ => wpAny (model prog w) A (newFunctionEnv scope env.globals cl [] env.qual none .none (some env)) (fun cenv s₄ =>
      codeAny (model prog w) A (.compStart (.ListComp elt [⟨target, iter, ifs, 0⟩] scope pos) 0 (.ref I) acc { cenv with scope := relabel scope env }) (RR acc cenv.locals) s₄) E s₃) E s := by
  refine wpAny_newObj_type (wpAny_newFunctionEnv hcell (by intro y hy; simp at hy) (fun h₁ hns₁ hsb₁ => ?_) hkind)
  dsimp only at hns₁ hsb₁ ⊢
  generalize hH2 : s.heap.push { cls := .type "list", dict := none, data := .seq ([] : List Value).toArray } = H2 at hns₁ hsb₁ ⊢
  have hC : H2.objs.size = s.heap.objs.size + 1 := by rw [← hH2, Heap.size_push]
  generalize hD : s.heap.objs.size = D at *
  generalize hCC : H2.objs.size = C at *
  have hDC : D ≠ C := by rw [hC]; exact Nat.ne_of_lt (Nat.lt_succ_self _)
  have hIf : I ∈ fp := W.sub I (List.mem_singleton.mpr rfl)
  have lt : ∀ b, b < D → b ≠ C ∧ b ≠ D := fun b hb => ⟨by rw [hC]; exact Nat.ne_of_lt (Nat.lt_succ_of_lt hb), Nat.ne_of_lt hb⟩
  have hgone : ∀ a, D ≤ a → h₀.get? a = none := fun a ha => by
    cases e : h₀.get? a with
    | none => rfl
    | some o => have := Heap.lt_size (F.keep a o e); rw [hD] at this; exact absurd this (Nat.not_lt.mpr ha)
  have hD₀ := hgone D (Nat.le_refl _)
  have hC₀ := hgone C (by rw [hC]; exact Nat.le_succ _)
  have hLlt : L < D := by rw [← hD]; exact F.ns.lt
  have hDL : D ≠ L := Ne.symm (lt L hLlt).2
  have hCL : C ≠ L := Ne.symm (lt L hLlt).1
  have hIC : I ≠ C := (lt I (hfp I hIf)).1
  have hID : I ≠ D := (lt I (hfp I hIf)).2
  have hCf : C ∉ fp := fun q => (lt C (hfp C q)).1 rfl
  have hDf : D ∉ fp := fun q => Nat.lt_irrefl _ (hfp D q)
  have old : ∀ b o, s.heap.get? b = some o → h₁.get? b = some o := fun b o e => by
    have hb : b < D := by rw [← hD]; exact Heap.lt_size e
    exact hsb₁.extBut b o (lt b hb).1 (Heap.get?_push_of_some _ (hH2 ▸ Heap.get?_push_of_some _ e))
  have hacc : h₁.get? D = some (LCg.lst []) := hsb₁.extBut _ _ hDC (Heap.get?_push_of_some _ (by rw [← hH2, ← hD]; exact Heap.get?_push_size _ rfl))
  obtain ⟨oC₀, heC₀, hoC₀⟩ := LCg.ns_obj hns₁
  have loop : ∀ s₃ : Shared, s₃ = { s with heap := h₁, toks := s.toks + ([] : List (Str × Value)).length } →
      codeAny (model prog w) A (.compLoop (.ListComp elt [⟨target, iter, ifs, 0⟩] scope pos) 0 (.ref I) (.ref D) (compEnvC scope cl C env)) (RR (.ref D) C) s₃ := by
    rintro s₃ rfl
    refine codeAny_compLoop_tests
      (fun k s' => ∃ h' tk i ys m' news' oC, s' = { s with heap := h', toks := tk } ∧ i ≤ n ∧ k = n + 1 - i ∧ St i h' ∧ Fr h₀ L h' m ∧ LCg.NsObj oC m' ∧ News h₀ L h' ((C, oC) :: (D, LCg.lst ys) :: news') ∧
        LCg.Off3 I C D news' ∧ J i ys news' tk) ?_ (n + 1)
      ⟨h₁, _, 0, [], _, news, oC₀, rfl, Nat.zero_le _, rfl, W.frame _ _ _ hst (fun b _ o e => old b o e), F.keeps old, hoC₀, ?_, ?_, hJ⟩ ht
    · rintro k s' ⟨h', tk, i, ys, m', news', oC, rfl, hi, rfl, hst', F', hC', N', off', hJ'⟩
      have off3 := off'.mem
      have hN : ∀ h₂ : Heap, (∀ b o, b ∉ [I] → h'.get? b = some o → h₂.get? b = some o) → Fr h₀ L h₂ m ∧ News h₀ L h₂ ((C, oC) :: (D, LCg.lst ys) :: news') := fun h₂ hk₂ => by
        refine ⟨LCg.fr_but F' hk₂ hIL hI₀, LCg.news_but N' hk₂ fun p hp => ?_⟩
        rcases List.mem_cons.mp hp with rfl | hp
        · exact Ne.symm hIC
        · rcases List.mem_cons.mp hp with rfl | hp
          · exact Ne.symm hID
          · exact (off3 p hp).1
      by_cases hlt : i < n
      · refine wpAny_toks (W.item i _ _ _ hlt hst' fun v h₂ tk₂ hPv hst₂ hk₂ hle => ?_)
        obtain ⟨F₂, N₂⟩ := hN h₂ hk₂
        obtain ⟨oI, heI⟩ := hIo _ _ hst₂
        have N₂' : News h₀ L h₂ ((I, oI) :: (C, oC) :: (D, LCg.lst ys) :: news') := fun p hp => by
          rcases List.mem_cons.mp hp with rfl | hp
          · exact ⟨heI, Ne.symm hIL, hI₀⟩
          · exact N₂ p hp
        have stays : ∀ h₃ news₃ oC₃ i' ys', News h₀ L h₃ ((I, oI) :: (C, oC₃) :: (D, LCg.lst ys) :: news₃) → Fr h₀ L h₃ m → (∃ t, J i' ys' news₃ t) → St (i + 1) h₃ := fun h₃ news₃ oC₃ i' ys' N₃ F₃ hJ₃ => by
          obtain ⟨t, hJ₃⟩ := hJ₃
          exact hSt _ _ _ _ _ hst₂ heI (N₃ _ (List.mem_cons_self ..)).1 F₃.keep (fun p hp => N₃ p (List.mem_cons_of_mem _ (List.mem_cons_of_mem _ (List.mem_cons_of_mem _ hp)))) (hJS _ _ _ _ hJ₃)
        refine wpAny_mono (turn i v ys news' I oI C oC D m' h₂ tk tk₂ _ hlt hPv hJ' hle hC' F₂ N₂' off' ⟨hIC, hID, Ne.symm hDC⟩ hCL) (fun _ s₃ h₃ => ?_) fun _ _ e => e
        refine wpAny_mono h₃ (fun ok s₄ h₄ => ?_) fun _ _ e => e
        cases ok with
        | false =>
          simp only [Bool.false_eq_true, if_false] at h₄ ⊢
          obtain ⟨h₅, tk₅, oC₅, m₅, news₅, rfl, F₅, N₅, off₅, hC₅, hJ₅⟩ := h₄
          exact ⟨n + 1 - (i + 1), by omega, h₅, tk₅, i + 1, ys, m₅, news₅, oC₅, rfl, hlt, rfl, stays _ _ _ _ _ N₅ F₅ ⟨_, hJ₅⟩, F₅, hC₅, fun p hp => N₅ p (List.mem_cons_of_mem _ hp), off₅, hJ₅⟩
        | true =>
          simp only [if_true] at h₄ ⊢
          refine wpAny_mono h₄ (fun y s₅ h₅ => ?_) fun _ _ e => e
          obtain ⟨h₅, tk₅, oC₅, m₅, news₅, rfl, F₅, N₅, off₅, hC₅, hJ₅⟩ := h₅
          have zD := (N₅ (D, LCg.lst ys) (List.mem_cons_of_mem _ (List.mem_cons_of_mem _ (List.mem_cons_self ..)))).1
          have hst₅ := stays _ _ _ _ _ N₅ F₅ ⟨_, hJ₅⟩
          refine append_at (hsz := by show ys.toArray.size ≤ sizeLine; rw [List.size_toArray]; have := hJl _ _ _ _ hJ'; omega) zD fun h₆ hs₆ hD₆ => ?_
          have o5 := off₅.mem
          refine ⟨n + 1 - (i + 1), by omega, h₆, tk₅, i + 1, ys ++ [y], m₅, news₅, oC₅, rfl, hlt, rfl, W.frame _ _ _ hst₅ (fun b hb o e => hs₆.extBut b o (fun q => hDf (q ▸ hb)) e), F₅.change hs₆ hDL hD₀, hC₅, fun p hp => ?_, off₅, hJ₅⟩
          rcases List.mem_cons.mp hp with rfl | hp
          · have z := N₅ (C, oC₅) (List.mem_cons_of_mem _ (List.mem_cons_self ..))
            exact ⟨hs₆.extBut _ _ (Ne.symm hDC) z.1, z.2⟩
          · rcases List.mem_cons.mp hp with rfl | hp
            · exact ⟨hD₆.trans (congrArg some (LCg.lst_snoc ys y)), hDL, hD₀⟩
            · have z := N₅ p (List.mem_cons_of_mem _ (List.mem_cons_of_mem _ (List.mem_cons_of_mem _ hp)))
              exact ⟨hs₆.extBut _ _ (o5 p hp).2.2 z.1, z.2⟩
      · obtain rfl : i = n := Nat.le_antisymm hi (Nat.not_lt.mp hlt)
        refine wpAny_toks (W.done _ _ _ hst' fun h₂ tk₂ hk₂ hle => ?_)
        obtain ⟨F₂, N₂⟩ := hN h₂ hk₂
        exact hRR D C h₂ tk₂ m' ys news' F₂ (fun p hp => N₂ p (List.mem_cons_of_mem _ hp)) off'.one (hC'.ns (N₂ _ (List.mem_cons_self ..)).1) hC₀ hCL (Ne.symm hDC) (fun p hp => (off3 p hp).2.1) (hJt _ _ _ _ _ hJ' hle)
    · intro p hp
      rcases List.mem_cons.mp hp with rfl | hp
      · exact ⟨heC₀, hCL, hC₀⟩
      · rcases List.mem_cons.mp hp with rfl | hp
        · exact ⟨hacc, hDL, hD₀⟩
        · exact ⟨old _ _ (N p hp).1, (N p hp).2⟩
    · exact LCg.Off3.of fun p hp => by
        have hb : p.1 < D := by rw [← hD]; exact Heap.lt_size (N p hp).1
        exact ⟨off p hp, (lt _ hb).1, (lt _ hb).2⟩
  exact codeAny_compStart_list (loop _ rfl) (W.self 0 _ _ _ (W.frame _ _ _ hst fun b _ o e => old b o e) (loop _ rfl))
end
end Mine

end
section
open PySem PySem.W PyProof.Rows PySem.Spec PySem.Calls
namespace Mine
section
variable {prog : Program} {w : World} {A : Around} {E : Value → Shared → Prop} {s : Shared} {h₀ : Heap} {L : Addr} {m : Str → Option Value} {env : Env}



/-- a turn whose target is one name -/
abbrev NTurn (prog : Program) (w : World) (A : Around) (h₀ : Heap) (L : Addr) (m : Str → Option Value) (env : Env) (elt : Expr) (x : Str) (ifs : List Expr) (scope : Scope) (cl : List (Str × Addr)) (s : Shared) (n : Nat) (P : Nat → Value → Prop) (J : Nat → List Value → List (Addr × Obj) → Nat → Prop) : Prop :=
  ∀ (i : Nat) (v : Value) (ys : List Value) (news : List (Addr × Obj)) (I : Addr) (oI : Obj) (C : Addr) (oC : Obj) (D : Addr) (m₂ : Str → Option Value) (h : Heap) (t₀ tk : Nat) (E' : Value → Shared → Prop), i < n → P i v → J i ys news t₀ → t₀ ≤ tk → LCg.NsObj oC m₂ → m₂ x = some v → Fr h₀ L h m → News h₀ L h ((I, oI) :: (C, oC) :: (D, LCg.lst ys) :: news) → LCg.Off3 I C D news → ((@Ne Nat I C) ∧ (@Ne Nat I D) ∧ (@Ne Nat C D)) →
    wpAny (model prog w) A (testsOf ifs (compEnvC scope cl C env)) (fun ok s₄ =>
      if ok = true then wpAny (model prog w) A (eval elt (compEnvC scope cl C env)) (fun y s₅ => GEnd h₀ L m { s with heap := h, toks := tk } I oI C D (LCg.lst ys) (fun news' tk' => J (i + 1) (ys ++ [y]) news' tk') s₅) E' s₄
      else GEnd h₀ L m { s with heap := h, toks := tk } I oI C D (LCg.lst ys) (fun news' tk' => J (i + 1) ys news' tk') s₄) E' { s with heap := h, toks := tk }

theorem gturn_name {elt : Expr} {x : Str} {px : Pos} {ifs : List Expr} {scope : Scope} {cl : List (Str × Addr)} {n : Nat} {P : Nat → Value → Prop} {J : Nat → List Value → List (Addr × Obj) → Nat → Prop}
    (hx : scope.names.lookup x = some .local) (hkind : scope.kind = .function) (turn : NTurn prog w A h₀ L m env elt x ifs scope cl s n P J) : GTurn prog w A h₀ L m env elt (.Name x px) ifs scope cl s n P J := by
  intro i v ys news I oI C oC D m' h t₀ tk E' hi hP hJ hle hC F N off ne hCL
  have zC := N (C, oC) (List.mem_cons_of_mem _ (List.mem_cons_self ..))
  have o3 := off.mem
  refine wpAny_assign_Name (wpAny_storeName_local (lookup_relabel_local hx) (hC.ns zC.1) (fun h₃ hn₃ hs₃ => ?_) (by simp [compEnvC, relabel, hkind]))
  obtain ⟨oC', heC', hoC'⟩ := LCg.ns_obj hn₃
  have F₃ : Fr h₀ L h₃ m := F.change hs₃ hCL zC.2.2
  have N₃ : News h₀ L h₃ ((I, oI) :: (C, oC') :: (D, LCg.lst ys) :: news) := fun p hp => by
    rcases List.mem_cons.mp hp with rfl | hp
    · have z := N (I, oI) (List.mem_cons_self ..)
      exact ⟨hs₃.extBut _ _ ne.1 z.1, z.2⟩
    · rcases List.mem_cons.mp hp with rfl | hp
      · exact ⟨heC', zC.2⟩
      · have z := N p (List.mem_cons_of_mem _ (List.mem_cons_of_mem _ hp))
        refine ⟨hs₃.extBut _ _ ?_ z.1, z.2⟩
        rcases List.mem_cons.mp hp with rfl | hp
        · exact Ne.symm ne.2.2
        · exact (o3 p hp).2.1
  refine wpAny_mono (turn i v ys news I oI C oC' D _ h₃ t₀ (tk + 1) E' hi hP hJ (Nat.le_succ_of_le hle) hoC' (by simp) F₃ N₃ off ne) (fun ok s₄ h₄ => ?_) fun _ _ e => e
  cases ok with
  | false => exact h₄
  | true => exact h₄




end
theorem tests_nil {prog : Program} {w : World} {A : Around} {E : Value → Shared → Prop} {s : Shared} {env : Env} {Q : Bool → Shared → Prop} (h : Q true s) : wpAny (model prog w) A (testsOf [] env) Q E s := by
  show wpAny _ _ (pure true) _ _ _
  exact wpAny_pure h
end Mine

end
section
open PySem PySem.W PyProof.Rows PySem.Builtin PySem.Builtin.Str
namespace Mine




section
variable {prog : Program} {w : World} {A : Around} {E : Value → Shared → Prop} {s : Shared} {h₀ : Heap} {L : Addr} {m : PySem.Str → Option Value} {news : List (Addr × Obj)} {Q : Value → Shared → Prop}
end
end Mine

end
section
open PySem PySem.W PyProof.Rows PySem.SeqAt
namespace Mine
theorem all2_get {α β : Type} {R : α → β → Prop} : ∀ {l : List α} {r : List β}, All2 R l r → ∀ (j : Nat) (h1 : j < l.length) (h2 : j < r.length), R l[j] r[j]
  | _, _, .nil, _, h, _ => absurd h (Nat.not_lt_zero _)
  | _, _, .cons h _, 0, _, _ => h
  | _, _, .cons _ t, j + 1, h1, h2 => all2_get t j (Nat.lt_of_succ_lt_succ h1) (Nat.lt_of_succ_lt_succ h2)
section
variable {prog : Program} {w : World} {A : Around} {E : Value → Shared → Prop} {s : Shared} {Q : Value → Shared → Prop}
theorem ne_same {l b : Addr} {vs ws : List Value} (hl : s.heap.IsList l vs.toArray) (hb : s.heap.IsList b ws.toArray) (h2 : All2 (fun v w => EqAt A.in1 s v w true) vs ws) (hu : A.units < cLine) (h : Q (.bool false) s) :
    wpAny (model prog w) A (compareOp .NotEq (.ref l) (.ref b)) Q E s := by
  have hn := h2.len
  refine RcNeAt.lists (e := fun _ => true) hl hb (by simp [hn]) hu (fun j h1 h3 => ?_) prog w E Q ?_
  · have := all2_get h2 j (by simpa using h1) (by simpa using h3)
    simpa using this
  · rw [show (List.range vs.toArray.size).all (fun _ => true) = true from List.all_eq_true.mpr fun _ _ => rfl]; exact h
theorem eq_same {l b : Addr} {vs ws : List Value} (hl : s.heap.IsList l vs.toArray) (hb : s.heap.IsList b ws.toArray) (h2 : All2 (fun v w => EqAt A.in1 s v w true) vs ws) (hu : A.units < cLine) (h : Q (.bool true) s) :
    wpAny (model prog w) A (compareOp .Eq (.ref l) (.ref b)) Q E s := by
  have hn := h2.len
  refine RcAt.lists (e := fun _ => true) hl hb (by simp [hn]) hu (fun j h1 h3 => ?_) prog w E Q ?_
  · have := all2_get h2 j (by simpa using h1) (by simpa using h3)
    simpa using this
  · rw [show (List.range vs.toArray.size).all (fun _ => true) = true from List.all_eq_true.mpr fun _ _ => rfl]; exact h
end
end Mine

end
section
open PySem PySem.W PyProof.Rows PySem.Spec PySem.Calls
namespace Mine

section
variable {prog : Program} {w : World} {A : Around} {E : Value → Shared → Prop} {s : Shared} {h₀ : Heap} {L : Addr} {m : Str → Option Value} {env : Env}

end
end Mine

end
section
open PySem PySem.W PyProof.Rows PySem.Spec PySem.Calls
namespace Mine
section
variable {prog : Program} {w : World} {A : Around} {E : Value → Shared → Prop} {s : Shared} {env : Env} {h₀ : Heap} {x : Str} {body : List Stmt} {Q : Flow → Shared → Prop}
end
end Mine

end
section
open PySem PySem.W PyProof.Rows PySem.Spec PySem.Calls
namespace Mine
section
variable {prog : Program} {w : World} {A : Around} {E : Value → Shared → Prop} {s : Shared} {h₀ : Heap} {L : Addr} {m : Str → Option Value} {env : Env}




end
end Mine

end
section
open PySem PySem.W PyProof.Rows
namespace Mine
/-- a row of marks (0) and texts (1), the last one first -/
abbrev RowV := List (Int × List Nat)
def layV (r : RowV) (s : List Nat) : RowV :=
  match r with
  | [] => [(1, s)]
  | (k, t) :: q => if k = 1 then (1, t ++ s) :: q else (1, s) :: (k, t) :: q
theorem layV_nil (s : List Nat) : layV [] s = [(1, s)] := rfl
theorem layV_one (t s : List Nat) (q : RowV) : layV ((1, t) :: q) s = (1, t ++ s) :: q := by simp [layV]
theorem layV_other {k : Int} (h : k ≠ 1) (t s : List Nat) (q : RowV) : layV ((k, t) :: q) s = (1, s) :: (k, t) :: q := by simp [layV, h]
def readV (held : Bool) (r : RowV) : List Nat → Option RowV
  | [] => if held then none else some r
  | c :: l => if held then (if special c then readV false (layV r [c]) l else none) else if c = 92 then readV true r l else if special c then readV false ((0, [c]) :: r) l else readV false (layV r [c]) l
theorem readV_bs (r : RowV) (l : List Nat) : readV false r (92 :: l) = readV true r l := by simp [readV]
theorem readV_held {c : Nat} (h : special c = true) (r : RowV) (l : List Nat) : readV true r (c :: l) = readV false (layV r [c]) l := by simp [readV, h]
theorem readV_mark {c : Nat} (h : special c = true) (h2 : c ≠ 92) (r : RowV) (l : List Nat) : readV false r (c :: l) = readV false ((0, [c]) :: r) l := by simp [readV, h, h2]
theorem readV_sign {c : Nat} (h : special c = false) (r : RowV) (l : List Nat) : readV false r (c :: l) = readV false (layV r [c]) l := by
  have h2 : c ≠ 92 := by rintro rfl; rw [sp92] at h; cases h
  simp [readV, h, h2]
theorem readV_escC (c : Nat) (r : RowV) (l : List Nat) : readV false r (escC c ++ l) = readV false (layV r [c]) l := by
  cases h : special c with
  | true => rw [escC_sp h]; show readV false r (92 :: c :: l) = _; rw [readV_bs, readV_held h]
  | false => rw [escC_no h]; exact readV_sign h r l
theorem readV_esc : ∀ (t : List Nat) (r : RowV) (l : List Nat), readV false r (esc t ++ l) = readV false (t.foldl (fun r c => layV r [c]) r) l
  | [], _, _ => rfl
  | c :: t, r, l => by rw [esc_cons, List.append_assoc, readV_escC, readV_esc t]; rfl
theorem fold_one : ∀ (t u : List Nat) (q : RowV), t.foldl (fun r c => layV r [c]) ((1, u) :: q) = (1, u ++ t) :: q
  | [], u, q => by simp
  | c :: t, u, q => by rw [List.foldl_cons, layV_one, fold_one t]; simp
def headK : RowV → Int
  | [] => 0
  | (k, _) :: _ => k
theorem fold_new {r : RowV} (h : headK r ≠ 1) {t : List Nat} (ht : t ≠ []) : t.foldl (fun r c => layV r [c]) r = (1, t) :: r := by
  cases t with
  | nil => exact absurd rfl ht
  | cons c t =>
    rw [List.foldl_cons]
    cases r with
    | nil => rw [layV_nil, fold_one]; rfl
    | cons p q => obtain ⟨k, u⟩ := p; rw [layV_other (k := k) h, fold_one]; rfl
def OkV : RowV → Prop
  | [] => True
  | (k, t) :: r => OkV r ∧ ((k = 0 ∧ ∃ c, t = [c] ∧ special c = true ∧ c ≠ 92) ∨ (k = 1 ∧ t ≠ [] ∧ headK r ≠ 1))
def partOf (p : Int × List Nat) : List Nat := if p.1 = 0 then p.2 else esc p.2
/-- the whole row as a pattern -/
def writV (r : RowV) : List Nat := (r.reverse.map partOf).flatten
theorem writV_cons (p : Int × List Nat) (r : RowV) : writV (p :: r) = writV r ++ partOf p := by simp [writV]
theorem read_writ : ∀ {r : RowV}, OkV r → ∀ l, readV false [] (writV r ++ l) = readV false r l
  | [], _, l => rfl
  | (k, t) :: r, ⟨h, h'⟩, l => by
    rw [writV_cons, List.append_assoc, read_writ h]
    rcases h' with ⟨rfl, c, rfl, hs, hn⟩ | ⟨rfl, ht, hk⟩
    · show readV false r (c :: l) = _
      exact readV_mark hs hn r l
    · show readV false r (esc t ++ l) = _
      rw [readV_esc, fold_new hk ht]
theorem read_row {r : RowV} (h : OkV r) : readV false [] (writV r) = some r := by
  have := read_writ h []
  rw [List.append_nil] at this
  exact this
theorem OkV.lay : ∀ {r : RowV}, OkV r → ∀ c, OkV (layV r [c])
  | [], _, c => ⟨trivial, .inr ⟨rfl, by simp, by simp [headK]⟩⟩
  | (k, t) :: r, h, c => by
    by_cases hk : k = 1
    · subst hk
      rw [layV_one]
      obtain ⟨h1, h2⟩ := h
      rcases h2 with ⟨h0, _⟩ | ⟨_, ht, h3⟩
      · exact absurd h0 (by decide)
      · exact ⟨h1, .inr ⟨rfl, by simp, h3⟩⟩
    · rw [layV_other hk]
      exact ⟨h, .inr ⟨rfl, by simp, hk⟩⟩
theorem OkV.mark {r : RowV} (h : OkV r) {c : Nat} (hs : special c = true) (hn : c ≠ 92) : OkV ((0, [c]) :: r) := ⟨h, .inl ⟨rfl, c, rfl, hs, hn⟩⟩
/-- each sign modulo 256 -/
def lowP (p : Int × List Nat) : Int × List Nat := (p.1, p.2.map (· % 256))
theorem low_head (r : RowV) : headK (r.map lowP) = headK r := by
  cases r with
  | nil => rfl
  | cons p q => rfl
theorem OkV.low : ∀ {r : RowV}, OkV r → OkV (r.map lowP)
  | [], _ => trivial
  | (k, t) :: r, ⟨h, h'⟩ => by
    refine ⟨h.low, ?_⟩
    rcases h' with ⟨rfl, c, rfl, hs, hn⟩ | ⟨rfl, ht, hk⟩
    · refine .inl ⟨rfl, c, ?_, hs, hn⟩
      have : c < 128 := by have := special_iff.mp hs; omega
      show [c % 256] = [c]
      rw [Nat.mod_eq_of_lt (by omega)]
    · exact .inr ⟨rfl, by simpa using ht, by rw [low_head]; exact hk⟩
/-- the marks -/
def marksL : List Nat := (List.range 128).filter (fun c => decide (c ≠ 92) && special c)
theorem marks_len : marksL.length = 23 := by decide +kernel
theorem marks_ok {c : Nat} (h : c ∈ marksL) : special c = true ∧ c ≠ 92 := by
  have := (List.mem_filter.mp h).2
  rw [Bool.and_eq_true, decide_eq_true_eq] at this
  exact ⟨this.2, this.1⟩
def markOf (x : Int) : Nat := marksL.getD (x / 3 % 23).toNat 46
theorem markOf_mem (x : Int) : markOf x ∈ marksL := by
  have h : (x / 3 % 23).toNat < marksL.length := by rw [marks_len]; omega
  unfold markOf
  rw [List.getD_eq_getElem?_getD, List.getElem?_eq_getElem h]
  exact List.getElem_mem h
def signOf (x : Int) : Nat := if x % 3 = 1 then (if x / 3 % 2 = 0 then 92 else (x / 6 % 128).toNat) else (x / 3 % 55296).toNat
def stepV (r : RowV) (x : Int) : RowV := if x % 3 = 0 then (0, [markOf x]) :: r else layV r [signOf x]
def startV : RowV := [(1, [46, 92, 110])]
def rowV (ns : List Int) : RowV := ns.foldl stepV startV
theorem row_ok_from : ∀ (ns : List Int) (r : RowV), OkV r → OkV (ns.foldl stepV r)
  | [], _, h => h
  | x :: ns, r, h => by
    rw [List.foldl_cons]
    refine row_ok_from ns _ ?_
    unfold stepV
    split
    · have := marks_ok (markOf_mem x)
      exact h.mark this.1 this.2
    · exact h.lay _
theorem row_ok (ns : List Int) : OkV (rowV ns) := row_ok_from ns _ ⟨trivial, .inr ⟨rfl, by decide, by decide⟩⟩
/-- how much a row holds -/
def sumV (r : RowV) : Nat := (r.map (fun p => p.2.length)).sum
theorem sum_cons (p : Int × List Nat) (r : RowV) : sumV (p :: r) = p.2.length + sumV r := by simp [sumV]
theorem lay_sum (r : RowV) (s : List Nat) : sumV (layV r s) = sumV r + s.length := by
  match r with
  | [] => simp [layV, sumV]
  | (k, t) :: q =>
    unfold layV
    dsimp only
    split
    · rw [sum_cons, sum_cons]; simp; omega
    · rw [sum_cons]; simp; omega
theorem lay_len (r : RowV) (s : List Nat) : (layV r s).length ≤ r.length + 1 := by
  match r with
  | [] => simp [layV]
  | (k, t) :: q =>
    unfold layV
    dsimp only
    split <;> simp
theorem step_len (r : RowV) (x : Int) : (stepV r x).length ≤ r.length + 1 ∧ sumV (stepV r x) = sumV r + 1 := by
  unfold stepV
  split
  · simp [sumV]; omega
  · exact ⟨lay_len _ _, by rw [lay_sum]; rfl⟩
theorem fold_len : ∀ (ns : List Int) (r : RowV), (ns.foldl stepV r).length ≤ r.length + ns.length ∧ sumV (ns.foldl stepV r) = sumV r + ns.length
  | [], r => by simp
  | x :: ns, r => by
    have h1 := step_len r x
    have h2 := fold_len ns (stepV r x)
    rw [List.foldl_cons, List.length_cons]
    omega
theorem row_len (ns : List Int) : (rowV ns).length ≤ 1 + ns.length ∧ sumV (rowV ns) = 3 + ns.length := fold_len ns startV
theorem sum_mem {r : RowV} {p : Int × List Nat} (h : p ∈ r) : p.2.length ≤ sumV r := by
  induction r with
  | nil => cases h
  | cons q r ih =>
    rw [sum_cons]
    rcases List.mem_cons.mp h with rfl | h
    · omega
    · have := ih h; omega
theorem part_len (p : Int × List Nat) : (partOf p).length ≤ 2 * p.2.length := by
  unfold partOf
  split
  · omega
  · exact esc_len _
theorem parts_sum : ∀ (r : RowV), ((r.map partOf).map (·.length)).sum ≤ 2 * sumV r
  | [] => by simp [sumV]
  | p :: r => by
    have h1 := part_len p
    have h2 := parts_sum r
    rw [sum_cons]
    simp only [List.map_cons, List.sum_cons]
    omega
theorem writ_len (r : RowV) : (writV r).length ≤ 2 * sumV r := by
  induction r with
  | nil => simp [writV, sumV]
  | cons p r ih => have := part_len p; rw [writV_cons, sum_cons, List.length_append]; omega
theorem low_sum (r : RowV) : sumV (r.map lowP) = sumV r := by
  induction r with
  | nil => rfl
  | cons p r ih => rw [List.map_cons, sum_cons, sum_cons, ih]; simp [lowP]
theorem part_small {p : Int × List Nat} (h : ∀ c ∈ p.2, c < 256) : ∀ c ∈ partOf p, c < 256 := by
  unfold partOf
  split
  · exact h
  · exact esc_small h
theorem low_small {p : Int × List Nat} : ∀ c ∈ (lowP p).2, c < 256 := by
  intro c hc
  obtain ⟨d, _, rfl⟩ := List.mem_map.mp hc
  exact Nat.mod_lt _ (by decide)
theorem writ_small (r : RowV) : ∀ c ∈ writV (r.map lowP), c < 256 := by
  induction r with
  | nil => intro c hc; cases hc
  | cons p r ih =>
    intro c hc
    rw [List.map_cons, writV_cons, List.mem_append] at hc
    rcases hc with hc | hc
    · exact ih c hc
    · exact part_small low_small c hc
end Mine

end
section
open PySem PySem.W PyProof.Rows PySem.Spec PySem.Calls
namespace Mine
/-- a claim of a def whose call may change the ledger -/
abbrev ClaimP (k : Nat) (prog : Program) (w : World) (K : Frag) (p : Program) (loose : List Str) (mean : ExcName → Option Value) (mg mb : Str → Option Value) (f : Addr) (news : List (Addr × Obj)) (vs : List Value) (Post : Value → List (Addr × Obj) → Prop) : Prop :=
  ∀ (dp un : Nat) (gd : Option (List Code)) (cn : Str) (cs : Scope) (a : Addr) (ccd : Value) (cl : List (Str × Addr)) (outer : List Env) (A₀ : Around) (base h₀ : Heap) (L : Addr) (m : Str → Option Value) (s : Shared) (Q E : Value → Shared → Prop),
    Below A₀ base outer h₀ → Fr h₀ L s.heap m → K.In h₀ → News h₀ L s.heap news → Top p loose mean mg mb h₀ → cs.kind = .function →
    dp + k < recursionLimit → un + 8 * k < cLine → (∀ (v : Value) (h' : Heap) (tk' : Nat) (news' : List (Addr × Obj)), Post v news' → Fr h₀ L h' m → News h₀ L h' news' → Q v { s with heap := h', toks := tk' }) →
      wpAny (model prog w) (ktrTop dp un gd cn cs L a ccd cl outer) (call (.ref f) vs) Q E s
theorem claimP_use {k : Nat} {prog : Program} {w : World} {K : Frag} {p : Program} {loose : List Str} {mean : ExcName → Option Value} {mg mb : Str → Option Value} {f : Addr} {news all : List (Addr × Obj)} {vs : List Value} {Post : Value → List (Addr × Obj) → Prop}
    {dp un : Nat} {gd : Option (List Code)} {cn : Str} {cs : Scope} {a : Addr} {ccd : Value} {cl : List (Str × Addr)} {outer : List Env} {A₀ : Around} {base h₀ : Heap} {L : Addr} {m : Str → Option Value} {s : Shared} {Q E : Value → Shared → Prop}
    (C : ClaimP k prog w K p loose mean mg mb f news vs Post) (B : Below A₀ base outer h₀) (F : Fr h₀ L s.heap m) (X : K.In h₀) (N : News h₀ L s.heap all) (sub : ∀ p ∈ news, p ∈ all) (T : Top p loose mean mg mb h₀) (hk : cs.kind = .function)
    (hd : dp + k < recursionLimit) (hu : un + 8 * k < cLine) (ret : ∀ (v : Value) (h' : Heap) (tk' : Nat) (news' : List (Addr × Obj)), Post v news' → Fr h₀ L h' m → News h₀ L h' news' → Q v { s with heap := h', toks := tk' }) :
    wpAny (model prog w) (ktrTop dp un gd cn cs L a ccd cl outer) (call (.ref f) vs) Q E s := C _ _ _ _ _ _ _ _ _ _ _ _ _ _ _ _ _ B F X (fun p hp => N p (sub p hp)) T hk hd hu ret

/-- an item of a row: a list of a kind and a text -/
structure Item where
  a : Addr
  k : Int
  u : Tok
  x : List Nat
  v : Tok
  n : Nat
abbrev Item.obj (p : Item) : Obj := W.listOf #[.int p.k p.u, .str (tx p.x) p.v] p.n
def Item.dat (p : Item) : Int × List Nat := (p.k, p.x)
def led (its : List Item) : List (Addr × Obj) := its.map fun p => (p.a, p.obj)
def refs (its : List Item) : List Value := its.reverse.map fun p => Value.ref p.a
def dats (its : List Item) : RowV := its.map Item.dat
theorem refs_cons (p : Item) (its : List Item) : refs (p :: its) = refs its ++ [.ref p.a] := by simp [refs]
theorem refs_len (its : List Item) : (refs its).length = its.length := by simp [refs]
theorem dats_len (its : List Item) : (dats its).length = its.length := by simp [dats]
/-- the items' addresses differ from each other and from all else -/
def Apart (news : List (Addr × Obj)) : List Item → Prop
  | [] => True
  | p :: its => (∀ q ∈ led its ++ news, q.1 ≠ p.a) ∧ Apart news its
section
variable {prog : Program} {w : World} {A : Around} {E : Value → Shared → Prop} {s : Shared} {Q : Value → Shared → Prop}
theorem ne_nil_no {l b : Addr} {xs ys : Array Value} (hl : s.heap.IsList l xs) (hb : s.heap.IsList b ys) (e1 : xs.size = 0) (e2 : ys.size = 0) (hu : A.units < cLine) (h : Q (.bool false) s) :
    wpAny (model prog w) A (compareOp .NotEq (.ref l) (.ref b)) Q E s := by
  refine SeqAt.RcNeAt.lists (e := fun _ => true) hl hb (by omega) hu (fun j h1 _ => by omega) prog w E Q ?_
  rw [e1]; exact h
theorem ne_nil_yes {l b : Addr} {xs ys : Array Value} (hl : s.heap.IsList l xs) (hb : s.heap.IsList b ys) (e1 : xs.size ≠ 0) (e2 : ys.size = 0) (hu : A.units < cLine) (h : Q (.bool true) s) :
    wpAny (model prog w) A (compareOp .NotEq (.ref l) (.ref b)) Q E s :=
  SeqAt.RcNeAt.lists_lengths hl hb (by rw [e2]; simpa using e1) hu prog w E Q h
theorem last_item {value slice : PySem.Expr} {a : Addr} {vs : List Value} {x : Value} {u : Tok} (hl : s.heap.IsList a (vs ++ [x]).toArray) (hn : vs.length ≤ 1000000) (h : Q x s)
    (hs : subscripted slice false (.ref a) (.int (-1) u) = operate [.ref a, .int (-1) u] (getItem (.ref a) (.int (-1) u)) := by with_unfolding_all rfl) (hg : ∀ r, letTemporaryGo value (.ref a) r = pure () := by intro _; with_unfolding_all rfl) :
    wpAny (model prog w) A (subscriptTail value slice (.ref a) (.int (-1) u)) Q E s := by
  have hi : (-1 + ((vs ++ [x]).length : Int)).toNat = vs.length := by simp; omega
  have hx : (vs ++ [x])[(-1 + ((vs ++ [x]).length : Int)).toNat]? = some x := by rw [hi]; simp
  exact subscriptTail_builtin hl.typeIs slot_list_getitem.lookup (wpAny_getItem_list_neg hl (by decide) (by simp; omega) (by decide) (by rw [List.size_toArray, List.getElem?_toArray]; exact hx) h) hs hg
end
end Mine

end
section
open PySem PySem.W PyProof.Rows PySem.Spec PySem.Calls
namespace Mine
section
variable {prog : Program} {w : World} {A : Around} {E : Value → Shared → Prop} {s : Shared} {env : Env} {h₀ : Heap} {x : Str} {body : List Stmt} {Q : Flow → Shared → Prop}
/-- a loop over a list of the ledger that nobody changes -/
theorem iter_mem {ax : Addr} {oA : Obj} {vs : List Value} {m₀ : Str → Option Value} {news : List (Addr × Obj)} (J : Inv)
    (hh : A.handled = none) (F : Fr h₀ env.locals s.heap m₀) (N : News h₀ env.locals s.heap news) (hl : s.heap.IsList ax vs.toArray) (hJm : ∀ i m nw, J m₀ news i m nw → (ax, oA) ∈ nw) (hj : J m₀ news 0 m₀ news)
    (turn : ∀ i v m₁ news₁ h tk I oI, vs[i]? = some v → J m₀ news i m₁ news₁ → (∀ p ∈ news₁, p.1 ≠ I) → Fr h₀ env.locals h (fun z => if z = x then some v else m₁ z) → News h₀ env.locals h ((I, oI) :: news₁) →
      wpAny (model prog w) A (execs body env) (TPost h₀ env.locals (J m₀ news (i + 1)) I oI { s with heap := h, toks := tk } Q) E { s with heap := h, toks := tk })
    (done : ∀ m₁ news₁ h tk, J m₀ news vs.length m₁ news₁ → Fr h₀ env.locals h m₁ → News h₀ env.locals h news₁ → Q .next { s with heap := h, toks := tk }) :
    wpAny (model prog w) A (pyIter (.ref ax)) (fun it s₂ => LoopAtV prog w A h₀ env x body Q E it s₂) E s := by
  have hlt : ax < s.heap.objs.size := by obtain ⟨_, e, _⟩ := hl; exact Heap.lt_size e
  have hmA := hJm _ _ _ hj
  have zA := N (ax, oA) hmA
  refine wpAny_pyIter_list hl ?_
  have W := Walks.list (prog := prog) (w := w) hh s.heap.objs.size ax (Nat.ne_of_lt hlt) vs.toArray
  refine ⟨_, _, _, vs.toArray.size, _, _, m₀, news, (fun i m nw => J m₀ news i m nw), rfl, W, ?_, ?_, ?_, ⟨⟨_, Heap.get?_push_size _ rfl, rfl, rfl⟩, hl.push _⟩, F.push _, (fun p hp => ⟨Heap.get?_push_of_some _ (N p hp).1, (N p hp).2⟩), hj, ?_, ?_⟩
  · intro hm
    rcases List.mem_cons.mp hm with h | h
    · exact absurd F.ns.lt (h ▸ Nat.lt_irrefl _)
    · exact zA.2.1 (List.mem_singleton.mp h).symm
  · intro b hb
    rw [List.mem_singleton.mp hb]
    exact next_is_new F
  · intro p hp hI
    exact absurd (Heap.lt_size (N p hp).1) ((List.mem_singleton.mp hI) ▸ Nat.lt_irrefl _)
  · rintro i v m₁ news₁ s₁ own ⟨hh', tk', rfl⟩ hin hP hJ hoff hsub hget hall hst₁ F₁ N₁
    obtain ⟨oI, hoI⟩ : ∃ oI, hh'.get? s.heap.objs.size = some oI := by obtain ⟨o, e, _⟩ := hst₁.1; exact ⟨o, e⟩
    have hI₀ : h₀.get? s.heap.objs.size = none := next_is_new F
    have hmem : (s.heap.objs.size, oI) ∈ own := hall _ (List.mem_cons_self ..) hI₀ oI hoI
    have zA' := N₁ (ax, oA) (List.mem_append_right _ (hJm _ _ _ hJ))
    have hown : ∀ p ∈ own, p = (s.heap.objs.size, oI) ∨ p = (ax, oA) := fun p hp => by
      have h1 := hsub p hp
      have h2 := hget p hp
      rcases List.mem_cons.mp h1 with h1 | h1
      · rw [h1] at h2
        have h3 : some oI = some p.2 := hoI.symm.trans h2
        obtain ⟨p1, p2⟩ := p
        cases h1; cases h3; exact .inl rfl
      · have h1 := List.mem_singleton.mp h1
        rw [h1] at h2
        have h3 : some oA = some p.2 := zA'.1.symm.trans h2
        obtain ⟨p1, p2⟩ := p
        cases h1; cases h3; exact .inr rfl
    have hoff' : ∀ p ∈ news₁, p.1 ≠ s.heap.objs.size := fun p hp e => hoff p hp (List.mem_singleton.mpr e)
    refine wpAny_mono (turn i v m₁ news₁ hh' tk' s.heap.objs.size oI (by simpa using hP) hJ hoff' F₁ ?_) (fun f s₂ p => ?_) fun _ _ e => e
    · intro p hp
      rcases List.mem_cons.mp hp with rfl | hp
      · exact N₁ _ (List.mem_append_left _ hmem)
      · exact N₁ p (List.mem_append_right _ hp)
    have fin : TEnd h₀ env.locals (J m₀ news (i + 1)) s.heap.objs.size oI { s with heap := hh', toks := tk' } s₂ → LoopStepU h₀ env.locals [s.heap.objs.size] own (J m₀ news (i + 1)) { s with heap := hh', toks := tk' } .next s₂ := by
      rintro ⟨h', tk, m', news', e, F', N', off, hm⟩
      refine ⟨rfl, h', tk, m', news', e, F', fun p hp => ?_, fun p hp hI => off p hp (List.mem_singleton.mp hI), hm⟩
      rcases List.mem_append.mp hp with hp | hp
      · rcases hown p hp with rfl | rfl
        · exact N' _ (List.mem_cons_self ..)
        · exact N' _ (List.mem_cons_of_mem _ (hJm _ _ _ hm))
      · exact N' p (List.mem_cons_of_mem _ hp)
    cases f with
    | ret v => exact .ret p
    | brk => exact .brk p
    | next => exact .next (fin p)
    | cont => exact .cont (fin p)
  · rintro h' tk m' news' F' N' _ hJ
    exact done m' news' h' tk (by simpa using hJ) F' N'
/-- a text, or a list of texts of one sign -/
def Signs (v : Value) (l : List Nat) (rest : List (Addr × Obj)) : Prop :=
  (∃ t, v = .str (tx l) t) ∨ ∃ ax vs n, v = .ref ax ∧ (ax, W.listOf vs.toArray n) ∈ rest ∧ All2 (fun c y => ∃ t, y = Value.str (tx [c]) t) l vs
theorem all2_at {α β : Type} {R : α → β → Prop} : ∀ {l : List α} {r : List β}, All2 R l r → ∀ {i : Nat} {v : β}, r[i]? = some v → ∃ a, l[i]? = some a ∧ R a v
  | _, _, .nil, i, v, h => by simp at h
  | _, _, .cons h _, 0, v, e => by simp at e; subst e; exact ⟨_, rfl, h⟩
  | _, _, .cons _ t, i + 1, v, e => by
    rw [List.getElem?_cons_succ] at e ⊢
    exact all2_at t e
theorem iter_signs {v : Value} {l : List Nat} {rest : List (Addr × Obj)} {m₀ : Str → Option Value} {news : List (Addr × Obj)} (J : Inv) (hv : Signs v l rest)
    (hh : A.handled = none) (F : Fr h₀ env.locals s.heap m₀) (N : News h₀ env.locals s.heap news) (hJr : ∀ i m nw, J m₀ news i m nw → ∀ p ∈ rest, p ∈ nw) (hj : J m₀ news 0 m₀ news)
    (turn : ∀ i c u m₁ news₁ h tk I oI, l[i]? = some c → J m₀ news i m₁ news₁ → (∀ p ∈ news₁, p.1 ≠ I) → Fr h₀ env.locals h (fun z => if z = x then some (.str ⟨#[c]⟩ u) else m₁ z) → News h₀ env.locals h ((I, oI) :: news₁) →
      wpAny (model prog w) A (execs body env) (TPost h₀ env.locals (J m₀ news (i + 1)) I oI { s with heap := h, toks := tk } Q) E { s with heap := h, toks := tk })
    (done : ∀ m₁ news₁ h tk, J m₀ news l.length m₁ news₁ → Fr h₀ env.locals h m₁ → News h₀ env.locals h news₁ → Q .next { s with heap := h, toks := tk }) :
    wpAny (model prog w) A (pyIter v) (fun it s₂ => LoopAtV prog w A h₀ env x body Q E it s₂) E s := by
  rcases hv with ⟨t, rfl⟩ | ⟨ax, vs, n, rfl, hm, h2⟩
  · exact iter_str J hh F N hj turn done
  · refine iter_mem (ax := ax) (oA := W.listOf vs.toArray n) (vs := vs) J hh F N ?_ (fun i m nw h => hJr i m nw h _ hm) hj ?_ ?_
    · exact ⟨_, (N _ (hJr _ _ _ hj _ hm)).1, rfl, _, rfl⟩
    · intro i v m₁ news₁ h tk I oI hi hJ off F' N'
      obtain ⟨c, hc, t, rfl⟩ := all2_at h2 hi
      exact turn i c t m₁ news₁ h tk I oI hc hJ off F' N'
    · intro m₁ news₁ h tk hJ F' N'
      rw [h2.len] at hJ
      exact done m₁ news₁ h tk hJ F' N'
end
end Mine

end
section
open PySem PySem.W PyProof.Rows PySem.Spec PySem.Calls
namespace Mine
theorem News.sub {h₀ h : Heap} {L : Addr} {all nw : List (Addr × Obj)} (N : News h₀ L h all) (sub : ∀ p ∈ nw, p ∈ all) : News h₀ L h nw := fun p hp => N p (sub p hp)
theorem sub_second {α : Type} {a b : α} {l : List α} : ∀ p ∈ a :: l, p ∈ a :: b :: l := by
  intro p hp
  rcases List.mem_cons.mp hp with rfl | hp
  · exact .head _
  · exact .tail _ (.tail _ hp)
theorem swap_sub {α : Type} {a b : α} {l : List α} : ∀ p ∈ a :: b :: l, p ∈ b :: a :: l := by
  intro p hp
  rcases List.mem_cons.mp hp with rfl | hp
  · exact .tail _ (.head _)
  · rcases List.mem_cons.mp hp with rfl | hp
    · exact .head _
    · exact .tail _ (.tail _ hp)
/-- a row in the ledger -/
def RowIs (D : Addr) (r : RowV) (news nw : List (Addr × Obj)) : Prop :=
  ∃ its n, nw = (D, W.listOf (refs its).toArray n) :: (led its ++ news) ∧ dats its = r ∧ (∀ q ∈ led its ++ news, q.1 ≠ D) ∧ Apart news its
theorem RowIs.rest {D : Addr} {r : RowV} {news nw : List (Addr × Obj)} (h : RowIs D r news nw) : ∀ p ∈ news, p ∈ nw := by
  obtain ⟨its, n, rfl, _⟩ := h
  exact fun p hp => .tail _ (List.mem_append_right _ hp)
theorem Apart.sub {news news' : List (Addr × Obj)} (hs : ∀ p ∈ news', p ∈ news) : ∀ {its : List Item}, Apart news its → Apart news' its
  | [], _ => trivial
  | p :: its, ⟨h1, h2⟩ => ⟨fun q hq => h1 q (by
      rcases List.mem_append.mp hq with hq | hq
      · exact List.mem_append_left _ hq
      · exact List.mem_append_right _ (hs q hq)), h2.sub hs⟩
theorem Apart.add {I : Addr} {oI : Obj} {news : List (Addr × Obj)} : ∀ {its : List Item}, Apart news its → (∀ p ∈ led its, p.1 ≠ I) → Apart ((I, oI) :: news) its
  | [], _, _ => trivial
  | p :: its, ⟨h1, h2⟩, ho => ⟨fun q hq => by
      rcases List.mem_append.mp hq with hq | hq
      · exact h1 q (List.mem_append_left _ hq)
      · rcases List.mem_cons.mp hq with rfl | hq
        · exact Ne.symm (ho (p.a, p.obj) (List.mem_cons_self ..))
        · exact h1 q (List.mem_append_right _ hq), h2.add fun q hq => ho q (List.mem_cons_of_mem _ hq)⟩
theorem Apart.off {I : Addr} {oI : Obj} {news : List (Addr × Obj)} : ∀ {its : List Item}, Apart ((I, oI) :: news) its → ∀ p ∈ led its, p.1 ≠ I
  | [], _, _, h => nomatch h
  | p :: its, ⟨h1, h2⟩, q, hq => by
    rcases List.mem_cons.mp hq with rfl | hq
    · exact Ne.symm (h1 (I, oI) (List.mem_append_right _ (List.mem_cons_self ..)))
    · exact h2.off q hq
theorem RowIs.add {D I : Addr} {oI : Obj} {r : RowV} {news nw : List (Addr × Obj)} (h : RowIs D r news nw) (off : ∀ p ∈ nw, p.1 ≠ I) : ∃ nw', RowIs D r ((I, oI) :: news) nw' ∧ ∀ p ∈ nw', p ∈ (I, oI) :: nw := by
  obtain ⟨its, n, rfl, hd, hD, hA⟩ := h
  refine ⟨_, ⟨its, n, rfl, hd, ?_, hA.add fun p hp => off p (.tail _ (List.mem_append_left _ hp))⟩, ?_⟩
  · intro q hq
    rcases List.mem_append.mp hq with hq | hq
    · exact hD q (List.mem_append_left _ hq)
    · rcases List.mem_cons.mp hq with rfl | hq
      · exact Ne.symm (off _ (List.mem_cons_self ..))
      · exact hD q (List.mem_append_right _ hq)
  · intro p hp
    rcases List.mem_cons.mp hp with rfl | hp
    · exact .tail _ (.head _)
    · rcases List.mem_append.mp hp with hp | hp
      · exact .tail _ (.tail _ (List.mem_append_left _ hp))
      · rcases List.mem_cons.mp hp with rfl | hp
        · exact .head _
        · exact .tail _ (.tail _ (List.mem_append_right _ hp))
theorem RowIs.rem {D I : Addr} {oI : Obj} {r : RowV} {news nw : List (Addr × Obj)} (h : RowIs D r ((I, oI) :: news) nw) (off : ∀ p ∈ news, p.1 ≠ I) : ∃ nw', RowIs D r news nw' ∧ (∀ p ∈ (I, oI) :: nw', p ∈ nw) ∧ ∀ p ∈ nw', p.1 ≠ I := by
  obtain ⟨its, n, rfl, hd, hD, hA⟩ := h
  refine ⟨_, ⟨its, n, rfl, hd, ?_, hA.sub fun p hp => .tail _ hp⟩, ?_, ?_⟩
  · intro q hq
    rcases List.mem_append.mp hq with hq | hq
    · exact hD q (List.mem_append_left _ hq)
    · exact hD q (List.mem_append_right _ (.tail _ hq))
  · intro p hp
    rcases List.mem_cons.mp hp with rfl | hp
    · exact .tail _ (List.mem_append_right _ (.head _))
    · rcases List.mem_cons.mp hp with rfl | hp
      · exact .head _
      · rcases List.mem_append.mp hp with hp | hp
        · exact .tail _ (List.mem_append_left _ hp)
        · exact .tail _ (List.mem_append_right _ (.tail _ hp))
  · intro p hp
    rcases List.mem_cons.mp hp with rfl | hp
    · exact Ne.symm (hD _ (List.mem_append_right _ (List.mem_cons_self ..)))
    · rcases List.mem_append.mp hp with hp | hp
      · exact hA.off p hp
      · exact off p hp
section
variable {prog : Program} {w : World} {A : Around} {E : Value → Shared → Prop} {s : Shared} {h₀ : Heap} {L : Addr} {m : Str → Option Value}
theorem row_append {D I a : Addr} {oI : Obj} {r : RowV} {k : Int} {x : List Nat} {u v : Tok} {rest nw : List (Addr × Obj)} {Q : Value → Shared → Prop} (F : Fr h₀ L s.heap m) (N : News h₀ L s.heap ((a, W.listOf #[.int k u, .str (tx x) v] 0) :: (I, oI) :: nw)) (hR : RowIs D r rest nw)
    (off : ∀ p ∈ nw, p.1 ≠ I) (ha : ∀ p ∈ (I, oI) :: nw, p.1 ≠ a) (hsz : r.length ≤ 100000)
    (h : ∀ h' nw', RowIs D ((k, x) :: r) rest nw' → (∀ p ∈ nw', p.1 ≠ I) → Fr h₀ L h' m → News h₀ L h' ((I, oI) :: nw') → Q .none { s with heap := h' }) : wpAny (model prog w) A (call (.builtin "list.append") [.ref D, .ref a]) Q E s := by
  obtain ⟨its, n, rfl, rfl, hD, hA⟩ := hR
  rw [dats_len] at hsz
  have haD : D ≠ a := ha (D, _) (.tail _ (.head _))
  have hID : D ≠ I := off (D, _) (.head _)
  have N₁ : News h₀ L s.heap ((D, W.listOf (refs its).toArray n) :: (a, W.listOf #[.int k u, .str (tx x) v] 0) :: (I, oI) :: (led its ++ rest)) := News.sub N (by
    intro p hp
    rcases List.mem_cons.mp hp with rfl | hp
    · exact .tail _ (.tail _ (.head _))
    · rcases List.mem_cons.mp hp with rfl | hp
      · exact .head _
      · rcases List.mem_cons.mp hp with rfl | hp
        · exact .tail _ (.head _)
        · exact .tail _ (.tail _ (.tail _ hp)))
  refine append_K F N₁ (Upd.head ?_) ?_ ?_
  · intro p hp
    rcases List.mem_cons.mp hp with rfl | hp
    · exact Ne.symm haD
    · rcases List.mem_cons.mp hp with rfl | hp
      · exact Ne.symm hID
      · exact hD p hp
  · intro h' F' N'
    refine h h' _ ⟨⟨a, k, u, x, v, 0⟩ :: its, n + 1, rfl, rfl, ?_, ?_, hA⟩ ?_ F' ?_
    · intro q hq
      rcases List.mem_cons.mp hq with rfl | hq
      · exact Ne.symm haD
      · exact hD q hq
    · intro q hq
      exact ha q (.tail _ (.tail _ hq))
    · intro p hp
      rcases List.mem_cons.mp hp with rfl | hp
      · exact hID
      · rcases List.mem_cons.mp hp with rfl | hp
        · exact Ne.symm (ha (I, oI) (.head _))
        · exact off p (.tail _ hp)
    · have e : (refs (⟨a, k, u, x, v, 0⟩ :: its)).toArray = (refs its).toArray.push (.ref a) := by rw [refs_cons]; simp
      rw [e]
      refine News.sub N' ?_
      intro p hp
      rcases List.mem_cons.mp hp with rfl | hp
      · exact .tail _ (.tail _ (.head _))
      · rcases List.mem_cons.mp hp with rfl | hp
        · exact .head _
        · rcases List.mem_cons.mp hp with rfl | hp
          · exact .tail _ (.head _)
          · exact .tail _ (.tail _ (.tail _ hp))
  · rw [List.size_toArray, refs_len, sizeLine_eq]; omega
end
/-- the loop of read -/
def InvRead (D : Addr) (fin : RowV) (l : List Nat) (rest : List (Addr × Obj)) : Inv := fun m₀ _ i m nw =>
  ∃ v0 held r, m = (fun y => if y = Str.ofString "sign" then v0 else if y = Str.ofString "held" then some (.bool held) else m₀ y) ∧ RowIs D r rest nw ∧ readV held r (l.drop i) = some fin ∧ r.length ≤ i ∧ sumV r ≤ i
theorem read_start {D : Addr} {fin : RowV} {l : List Nat} {rest : List (Addr × Obj)} {m₀ : Str → Option Value} {nw : List (Addr × Obj)} (h1 : m₀ (Str.ofString "held") = some (.bool false)) (hR : RowIs D [] rest nw) (hf : readV false [] l = some fin) : InvRead D fin l rest m₀ nw 0 m₀ nw := by
  refine ⟨m₀ (Str.ofString "sign"), false, [], ?_, hR, hf, Nat.zero_le _, Nat.le_refl _⟩
  funext y
  by_cases e1 : y = Str.ofString "sign"
  · subst e1; simp
  · by_cases e2 : y = Str.ofString "held"
    · subst e2; simp [e1, h1]
    · simp [e1, e2]
theorem mapRead1 {m₀ : Str → Option Value} {v0 v1 b b' : Option Value} : (fun y => if y = Str.ofString "held" then b' else if y = Str.ofString "sign" then v1 else (fun y => if y = Str.ofString "sign" then v0 else if y = Str.ofString "held" then b else m₀ y) y) =
    fun y => if y = Str.ofString "sign" then v1 else if y = Str.ofString "held" then b' else m₀ y := by
  have d1 : Str.ofString "held" ≠ Str.ofString "sign" := by decide
  funext y
  by_cases h1 : y = Str.ofString "held"
  · subst h1; simp [d1]
  · by_cases h2 : y = Str.ofString "sign"
    · subst h2; simp [h1]
    · simp [h1, h2]
theorem mapRead2 {m₀ : Str → Option Value} {v0 v1 b : Option Value} : (fun y => if y = Str.ofString "sign" then v1 else (fun y => if y = Str.ofString "sign" then v0 else if y = Str.ofString "held" then b else m₀ y) y) =
    fun y => if y = Str.ofString "sign" then v1 else if y = Str.ofString "held" then b else m₀ y := by
  funext y
  by_cases h2 : y = Str.ofString "sign"
  · subst h2; simp
  · simp [h2]
theorem read_end {h₀ h' : Heap} {L D I : Addr} {m₀ m : Str → Option Value} {fin r r' : RowV} {l : List Nat} {i c : Nat} {v1 : Option Value} {held held' : Bool} {oI : Obj} {rest nw nw₀ : List (Addr × Obj)} {s₁ : Shared} {tk : Nat} {Q : Flow → Shared → Prop}
    (F : Fr h₀ L h' m) (N : News h₀ L h' ((I, oI) :: nw)) (hm : m = fun y => if y = Str.ofString "sign" then v1 else if y = Str.ofString "held" then some (.bool held') else m₀ y)
    (hR : RowIs D r' rest nw) (off : ∀ p ∈ nw, p.1 ≠ I) (hc : l[i]? = some c) (hf : readV held r (l.drop i) = some fin) (hst : ∀ t, readV held r (c :: t) = readV held' r' t) (hl : r'.length ≤ r.length + 1) (hs : sumV r' ≤ sumV r + 1) (h1 : r.length ≤ i) (h2 : sumV r ≤ i) :
    TPost h₀ L (InvRead D fin l rest m₀ nw₀ (i + 1)) I oI s₁ Q .next { s₁ with heap := h', toks := tk } := by
  subst hm
  have hi : i < l.length := by
    rcases Nat.lt_or_ge i l.length with h | h
    · exact h
    · rw [List.getElem?_eq_none h] at hc; cases hc
  refine TPost.next (TEnd.mk' F N (fun p hp => hp) off ⟨v1, held', r', rfl, hR, ?_, by omega, by omega⟩)
  have e : l.drop i = c :: l.drop (i + 1) := by
    rw [List.getElem?_eq_getElem hi] at hc
    cases hc
    exact List.drop_eq_getElem_cons hi
  rw [e, hst] at hf
  exact hf
theorem read_none {fin r : RowV} {l : List Nat} {i c : Nat} (hc : l[i]? = some c) (hf : readV true r (l.drop i) = some fin) (hs : special c = false) : False := by
  have hi : i < l.length := by
    rcases Nat.lt_or_ge i l.length with h | h
    · exact h
    · rw [List.getElem?_eq_none h] at hc; cases hc
  have e : l.drop i = c :: l.drop (i + 1) := by
    rw [List.getElem?_eq_getElem hi] at hc
    cases hc
    exact List.drop_eq_getElem_cons hi
  rw [e] at hf
  simp [readV, hs] at hf
theorem RowIs.gm {prog : Program} {w : World} {A : Around} {E : Value → Shared → Prop} {s : Shared} {h₀ : Heap} {L D : Addr} {r : RowV} {rest nw all : List (Addr × Obj)} {pl : Sem Bool} {Q : Value × List Value → Shared → Prop} (N : News h₀ L s.heap all) (hs : ∀ p ∈ nw, p ∈ all) (hR : RowIs D r rest nw)
    (h : Q (.builtin "list.append", [.ref D]) s) : wpAny (model prog w) A (getMethod (.ref D) (PySem.Str.ofString "append") pl) Q E s := by
  obtain ⟨its, n, rfl, _⟩ := hR
  exact getMethod_list_append (N _ (hs _ (.head _))).1 rfl rfl h
theorem iter_read {prog : Program} {w : World} {A : Around} {E : Value → Shared → Prop} {s : Shared} {env : Env} {h₀ : Heap} {x : Str} {body : List Stmt} {Q : Flow → Shared → Prop} {D : Addr} {v : Value} {l : List Nat} {fin : RowV} {news : List (Addr × Obj)} {m₀ : Str → Option Value} (l1 : ∀ p ∈ news, p.1 < D) (hv : Signs v l news) (hf : readV false [] l = some fin)
    (hh : A.handled = none) (F : Fr h₀ env.locals s.heap m₀) (N : News h₀ env.locals s.heap ((D, W.listOf #[] 0) :: news)) (h1 : m₀ (Str.ofString "held") = some (.bool false))
    (turn : ∀ i c u m₁ news₁ h tk I oI, l[i]? = some c → InvRead D fin l news m₀ ((D, W.listOf #[] 0) :: news) i m₁ news₁ → (∀ p ∈ news₁, p.1 ≠ I) → Fr h₀ env.locals h (fun z => if z = x then some (.str ⟨#[c]⟩ u) else m₁ z) → News h₀ env.locals h ((I, oI) :: news₁) →
      wpAny (model prog w) A (execs body env) (TPost h₀ env.locals (InvRead D fin l news m₀ ((D, W.listOf #[] 0) :: news) (i + 1)) I oI { s with heap := h, toks := tk } Q) E { s with heap := h, toks := tk })
    (done : ∀ m₁ news₁ h tk, InvRead D fin l news m₀ ((D, W.listOf #[] 0) :: news) l.length m₁ news₁ → Fr h₀ env.locals h m₁ → News h₀ env.locals h news₁ → Q .next { s with heap := h, toks := tk }) :
    wpAny (model prog w) A (pyIter v) (fun it s₂ => LoopAtV prog w A h₀ env x body Q E it s₂) E s :=
  iter_signs (InvRead D fin l news) hv hh F N (by rintro i m nw ⟨_, _, _, _, hR, _⟩; exact hR.rest) (read_start h1 ⟨[], 0, rfl, rfl, ne_lt l1, trivial⟩ hf) turn done
theorem one_bs {c : Nat} : ((⟨#[c]⟩ : PySem.Str) == Str.ofString "\\") = decide (c = 92) := by
  rw [ofString_bs, Bool.eq_iff_iff, beq_iff_eq, decide_eq_true_eq]
  constructor
  · intro h
    have := tx_inj (a := [c]) (b := [92]) h
    simpa using this
  · rintro rfl; rfl
theorem st_bs {c : Nat} {r : RowV} (h : ((⟨#[c]⟩ : PySem.Str) == Str.ofString "\\") = true) : ∀ t, readV false r (c :: t) = readV true r t := by
  rw [one_bs, decide_eq_true_eq] at h
  subst h
  exact readV_bs r
theorem st_mark {c : Nat} {r : RowV} (h : ((⟨#[c]⟩ : PySem.Str) == Str.ofString "\\") = false) (hs : special c = true) : ∀ t, readV false r (c :: t) = readV false ((0, [c]) :: r) t := by
  rw [one_bs, decide_eq_false_iff_not] at h
  exact readV_mark hs h r
theorem row1_len (p : Int × List Nat) (r : RowV) : (p :: r).length ≤ r.length + 1 := Nat.le_refl _
theorem row1_sum (k : Int) (c : Nat) (r : RowV) : sumV ((k, [c]) :: r) ≤ sumV r + 1 := by rw [sum_cons]; simp; omega
theorem lay1_sum (r : RowV) (c : Nat) : sumV (layV r [c]) ≤ sumV r + 1 := by rw [lay_sum]; simp
end Mine

end
section
open PySem PySem.W PyProof.Rows PySem.Spec PySem.Calls
namespace Mine.P
section
variable {prog : Program} {w : World} {A : Around} {E : Value → Shared → Prop} {s : Shared} {h₀ : Heap} {L : Addr} {m : Str → Option Value} {env : Env} {R : Result → Shared → Prop}
theorem go_list {target : Expr} {I l : Addr} {v : Value} {i : Nat} {Q : Unit → Shared → Prop} (hit : s.heap.IsListIter I l i) (hQ : Q () s) : wpAny (model prog w) A (letOwnedTupleGo target (.ref I) v) Q E s := by
  obtain ⟨o, ho, hc, hd⟩ := hit
  have key : ∀ T : Addr, wpAny (model prog w) A (do
      let o ← load I
      match o.cls, o.data with
      | .type n, .fields vs =>
        if (["enumerate", "zip", "dict_itemiterator", "dict_reverseitemiterator", "odict_iterator", "itertools.zip_longest", "itertools.pairwise"].contains n && vs[0]? == some (rawInt T)) = true then (do rule "for.unpacks-the-owned-tuple"; updateField I 0 .none) else pure ()
      | _, _ => pure ()) Q E s := by
    intro T
    refine wpAny_bind (wpAny_load ho ?_)
    rw [hc, hd]
    dsimp only
    rw [if_neg (by
      intro h
      rw [show (["enumerate", "zip", "dict_itemiterator", "dict_reverseitemiterator", "odict_iterator", "itertools.zip_longest", "itertools.pairwise"].contains "list_iterator") = false from by decide, Bool.false_and] at h
      cases h)]
    exact wpAny_pure hQ
  unfold letOwnedTupleGo
  cases target
  all_goals first
    | exact wpAny_pure hQ
    | (cases v
       all_goals first
         | exact wpAny_pure hQ
         | exact key _)
theorem loopP {elt target iter : Expr} {ifs : List Expr} {scope : Scope} {pos : Pos} {it acc : Value} {env : Env} (I : Nat → Shared → Prop)
    (turn : ∀ n s, I n s → wpAny (model prog w) A (pyNext it) (fun r s₁ => match r with
      | none => R (.ok .next) s₁
      | some v => wpAny (model prog w) A (letOwnedTupleGo target it v) (fun _ s₀ => wpAny (model prog w) A (assign target env v) (fun _ s₂ =>
          wpAny (model prog w) A (testsOf ifs env) (fun ok s₃ =>
            if ok = true then wpAny (model prog w) A (eval elt env) (fun x s₄ =>
              wpAny (model prog w) A (call (.builtin "list.append") [acc, x]) (fun _ s₅ => ∃ m, m < n ∧ I m s₅) (notedBy (model prog w) A env fun e s' => R (.error e) s') s₄) (notedBy (model prog w) A env fun e s' => R (.error e) s') s₃
            else ∃ m, m < n ∧ I m s₃) (notedBy (model prog w) A env fun e s' => R (.error e) s') s₂) (notedBy (model prog w) A env fun e s' => R (.error e) s') s₀) (notedBy (model prog w) A env fun e s' => R (.error e) s') s₁) (notedBy (model prog w) A env fun e s' => R (.error e) s') s)
    (n : Nat) (h : I n s) : codeAny (model prog w) A (.compLoop (.ListComp elt [⟨target, iter, ifs, 0⟩] scope pos) 0 it acc env) R s := by
  refine codeAny_loop rfl I (fun n s hI => ?_) n h
  show wpAny _ A ((compTurn (.ListComp elt [⟨target, iter, ifs, 0⟩] scope pos) 0 it acc env).onRaise (fun x => do noteFrame x env; theTreesLotGoes x)) _ _ s
  refine wpAny_noted ?_
  rw [compTurn_list]
  refine wpAny_bind (wpAny_standAt (wpAny_bind (wpAny_mono (turn n s hI) (fun r s₁ h₁ => ?_) fun _ _ h' => h')))
  cases r with
  | none => exact wpAny_pure h₁
  | some v =>
    refine wpAny_bind (wpAny_mono h₁ (fun _ s₀ h₀' => ?_) fun _ _ h' => h')
    refine wpAny_bind (wpAny_mono h₀' (fun _ s₂ h₂ => wpAny_bind (wpAny_mono h₂ (fun ok s₃ h₃ => ?_) fun _ _ h' => h')) fun _ _ h' => h')
    cases ok with
    | false => exact wpAny_pure ⟨rfl, h₃⟩
    | true =>
      exact wpAny_bind (wpAny_bind (wpAny_mono h₃ (fun x s₄ h₄ => wpAny_bind (wpAny_mono h₄ (fun _ s₅ h₅ => wpAny_pure (wpAny_pure ⟨rfl, h₅⟩)) fun _ _ h' => h')) fun _ _ h' => h'))
theorem block_G {elt target iter : Expr} {ifs : List Expr} {scope : Scope} {cl : List (Str × Addr)} {pos : Pos} {I : Addr} {fp : List Addr} {n : Nat} {P : Nat → Value → Prop} {St : Nat → Heap → Prop} {S : List (Addr × Obj) → Prop} {news : List (Addr × Obj)} {RR : Value → Addr → Result → Shared → Prop}
    (J : Nat → List Value → List (Addr × Obj) → Nat → Prop)
    (W : Walks prog w A I fp [I] n P St) (hsz : n ≤ sizeLine) (hIo : ∀ i h, St i h → ∃ o, h.get? I = some o)
    (hSt : ∀ i h h' o nw, St i h → h.get? I = some o → h'.get? I = some o → (∀ b o, h₀.get? b = some o → h'.get? b = some o) → News h₀ L h' nw → S nw → St i h')
    (hJS : ∀ i ys nw t, J i ys nw t → S nw) (hJl : ∀ i ys nw t, J i ys nw t → ys.length ≤ i) (hJt : ∀ i ys nw t t', J i ys nw t → t ≤ t' → J i ys nw t')
    (hcell : ∀ y ∈ scope.names, y.2 ≠ .cell) (hkind : scope.kind = .function) (hst : St 0 s.heap) (hfp : ∀ b ∈ fp, b < s.heap.objs.size)
    (F : Fr h₀ L s.heap m) (N : News h₀ L s.heap news) (hIL : L ≠ I) (hI₀ : h₀.get? I = none) (off : ∀ p ∈ news, p.1 ≠ I) (hJ : J 0 [] news s.toks)
    (turn : GTurn prog w A h₀ L m env elt target ifs scope cl s n P J) (hgo : ∀ i (s' : Shared) v (Q' : Unit → Shared → Prop) (E' : Value → Shared → Prop), St i s'.heap → Q' () s' → wpAny (model prog w) A (letOwnedTupleGo target (.ref I) v) Q' E' s')
    (hRR : ∀ D C h tk m' ys news', Fr h₀ L h m → News h₀ L h ((D, LCg.lst ys) :: news') → LCg.Off1 D news' → h.Ns C m' → h₀.get? C = none → C ≠ L → C ≠ D → (∀ p ∈ news', p.1 ≠ C) → J n ys news' tk → RR (.ref D) C (.ok .next) { s with heap := h, toks := tk }) :
    wpAny (model prog w) A (newList []) (fun acc s₃ => wpAny (model prog w) A (newFunctionEnv scope env.globals cl [] env.qual none .none (some env)) (fun cenv s₄ =>
      codeAny (model prog w) A (.compStart (.ListComp elt [⟨target, iter, ifs, 0⟩] scope pos) 0 (.ref I) acc { cenv with scope := relabel scope env }) (RR acc cenv.locals) s₄) E s₃) E s := by
  refine wpAny_newObj_type (wpAny_newFunctionEnv hcell (by intro y hy; simp at hy) (fun h₁ hns₁ hsb₁ => ?_) hkind)
  dsimp only at hns₁ hsb₁ ⊢
  generalize hH2 : s.heap.push { cls := .type "list", dict := none, data := .seq ([] : List Value).toArray } = H2 at hns₁ hsb₁ ⊢
  have hC : H2.objs.size = s.heap.objs.size + 1 := by rw [← hH2, Heap.size_push]
  generalize hD : s.heap.objs.size = D at *
  generalize hCC : H2.objs.size = C at *
  have hDC : D ≠ C := by rw [hC]; exact Nat.ne_of_lt (Nat.lt_succ_self _)
  have hIf : I ∈ fp := W.sub I (List.mem_singleton.mpr rfl)
  have lt : ∀ b, b < D → b ≠ C ∧ b ≠ D := fun b hb => ⟨by rw [hC]; exact Nat.ne_of_lt (Nat.lt_succ_of_lt hb), Nat.ne_of_lt hb⟩
  have hgone : ∀ a, D ≤ a → h₀.get? a = none := fun a ha => by
    cases e : h₀.get? a with
    | none => rfl
    | some o => have := Heap.lt_size (F.keep a o e); rw [hD] at this; exact absurd this (Nat.not_lt.mpr ha)
  have hD₀ := hgone D (Nat.le_refl _)
  have hC₀ := hgone C (by rw [hC]; exact Nat.le_succ _)
  have hLlt : L < D := by rw [← hD]; exact F.ns.lt
  have hDL : D ≠ L := Ne.symm (lt L hLlt).2
  have hCL : C ≠ L := Ne.symm (lt L hLlt).1
  have hIC : I ≠ C := (lt I (hfp I hIf)).1
  have hID : I ≠ D := (lt I (hfp I hIf)).2
  have hCf : C ∉ fp := fun q => (lt C (hfp C q)).1 rfl
  have hDf : D ∉ fp := fun q => Nat.lt_irrefl _ (hfp D q)
  have old : ∀ b o, s.heap.get? b = some o → h₁.get? b = some o := fun b o e => by
    have hb : b < D := by rw [← hD]; exact Heap.lt_size e
    exact hsb₁.extBut b o (lt b hb).1 (Heap.get?_push_of_some _ (hH2 ▸ Heap.get?_push_of_some _ e))
  have hacc : h₁.get? D = some (LCg.lst []) := hsb₁.extBut _ _ hDC (Heap.get?_push_of_some _ (by rw [← hH2, ← hD]; exact Heap.get?_push_size _ rfl))
  obtain ⟨oC₀, heC₀, hoC₀⟩ := LCg.ns_obj hns₁
  have loop : ∀ s₃ : Shared, s₃ = { s with heap := h₁, toks := s.toks + ([] : List (Str × Value)).length } →
      codeAny (model prog w) A (.compLoop (.ListComp elt [⟨target, iter, ifs, 0⟩] scope pos) 0 (.ref I) (.ref D) (compEnvC scope cl C env)) (RR (.ref D) C) s₃ := by
    rintro s₃ rfl
    refine loopP
      (fun k s' => ∃ h' tk i ys m' news' oC, s' = { s with heap := h', toks := tk } ∧ i ≤ n ∧ k = n + 1 - i ∧ St i h' ∧ Fr h₀ L h' m ∧ LCg.NsObj oC m' ∧ News h₀ L h' ((C, oC) :: (D, LCg.lst ys) :: news') ∧
        LCg.Off3 I C D news' ∧ J i ys news' tk) ?_ (n + 1)
      ⟨h₁, _, 0, [], _, news, oC₀, rfl, Nat.zero_le _, rfl, W.frame _ _ _ hst (fun b _ o e => old b o e), F.keeps old, hoC₀, ?_, ?_, hJ⟩
    · rintro k s' ⟨h', tk, i, ys, m', news', oC, rfl, hi, rfl, hst', F', hC', N', off', hJ'⟩
      have off3 := off'.mem
      have hN : ∀ h₂ : Heap, (∀ b o, b ∉ [I] → h'.get? b = some o → h₂.get? b = some o) → Fr h₀ L h₂ m ∧ News h₀ L h₂ ((C, oC) :: (D, LCg.lst ys) :: news') := fun h₂ hk₂ => by
        refine ⟨LCg.fr_but F' hk₂ hIL hI₀, LCg.news_but N' hk₂ fun p hp => ?_⟩
        rcases List.mem_cons.mp hp with rfl | hp
        · exact Ne.symm hIC
        · rcases List.mem_cons.mp hp with rfl | hp
          · exact Ne.symm hID
          · exact (off3 p hp).1
      by_cases hlt : i < n
      · refine wpAny_toks (W.item i _ _ _ hlt hst' fun v h₂ tk₂ hPv hst₂ hk₂ hle => ?_)
        obtain ⟨F₂, N₂⟩ := hN h₂ hk₂
        obtain ⟨oI, heI⟩ := hIo _ _ hst₂
        have N₂' : News h₀ L h₂ ((I, oI) :: (C, oC) :: (D, LCg.lst ys) :: news') := fun p hp => by
          rcases List.mem_cons.mp hp with rfl | hp
          · exact ⟨heI, Ne.symm hIL, hI₀⟩
          · exact N₂ p hp
        have stays : ∀ h₃ news₃ oC₃ i' ys', News h₀ L h₃ ((I, oI) :: (C, oC₃) :: (D, LCg.lst ys) :: news₃) → Fr h₀ L h₃ m → (∃ t, J i' ys' news₃ t) → St (i + 1) h₃ := fun h₃ news₃ oC₃ i' ys' N₃ F₃ hJ₃ => by
          obtain ⟨t, hJ₃⟩ := hJ₃
          exact hSt _ _ _ _ _ hst₂ heI (N₃ _ (List.mem_cons_self ..)).1 F₃.keep (fun p hp => N₃ p (List.mem_cons_of_mem _ (List.mem_cons_of_mem _ (List.mem_cons_of_mem _ hp)))) (hJS _ _ _ _ hJ₃)
        refine hgo (i + 1) _ v _ _ hst₂ ?_
        refine wpAny_mono (turn i v ys news' I oI C oC D m' h₂ tk tk₂ _ hlt hPv hJ' hle hC' F₂ N₂' off' ⟨hIC, hID, Ne.symm hDC⟩ hCL) (fun _ s₃ h₃ => ?_) fun _ _ e => e
        refine wpAny_mono h₃ (fun ok s₄ h₄ => ?_) fun _ _ e => e
        cases ok with
        | false =>
          simp only [Bool.false_eq_true, if_false] at h₄ ⊢
          obtain ⟨h₅, tk₅, oC₅, m₅, news₅, rfl, F₅, N₅, off₅, hC₅, hJ₅⟩ := h₄
          exact ⟨n + 1 - (i + 1), by omega, h₅, tk₅, i + 1, ys, m₅, news₅, oC₅, rfl, hlt, rfl, stays _ _ _ _ _ N₅ F₅ ⟨_, hJ₅⟩, F₅, hC₅, fun p hp => N₅ p (List.mem_cons_of_mem _ hp), off₅, hJ₅⟩
        | true =>
          simp only [if_true] at h₄ ⊢
          refine wpAny_mono h₄ (fun y s₅ h₅ => ?_) fun _ _ e => e
          obtain ⟨h₅, tk₅, oC₅, m₅, news₅, rfl, F₅, N₅, off₅, hC₅, hJ₅⟩ := h₅
          have zD := (N₅ (D, LCg.lst ys) (List.mem_cons_of_mem _ (List.mem_cons_of_mem _ (List.mem_cons_self ..)))).1
          have hst₅ := stays _ _ _ _ _ N₅ F₅ ⟨_, hJ₅⟩
          refine append_at (hsz := by show ys.toArray.size ≤ sizeLine; rw [List.size_toArray]; have := hJl _ _ _ _ hJ'; omega) zD fun h₆ hs₆ hD₆ => ?_
          have o5 := off₅.mem
          refine ⟨n + 1 - (i + 1), by omega, h₆, tk₅, i + 1, ys ++ [y], m₅, news₅, oC₅, rfl, hlt, rfl, W.frame _ _ _ hst₅ (fun b hb o e => hs₆.extBut b o (fun q => hDf (q ▸ hb)) e), F₅.change hs₆ hDL hD₀, hC₅, fun p hp => ?_, off₅, hJ₅⟩
          rcases List.mem_cons.mp hp with rfl | hp
          · have z := N₅ (C, oC₅) (List.mem_cons_of_mem _ (List.mem_cons_self ..))
            exact ⟨hs₆.extBut _ _ (Ne.symm hDC) z.1, z.2⟩
          · rcases List.mem_cons.mp hp with rfl | hp
            · exact ⟨hD₆.trans (congrArg some (LCg.lst_snoc ys y)), hDL, hD₀⟩
            · have z := N₅ p (List.mem_cons_of_mem _ (List.mem_cons_of_mem _ (List.mem_cons_of_mem _ hp)))
              exact ⟨hs₆.extBut _ _ (o5 p hp).2.2 z.1, z.2⟩
      · obtain rfl : i = n := Nat.le_antisymm hi (Nat.not_lt.mp hlt)
        refine wpAny_toks (W.done _ _ _ hst' fun h₂ tk₂ hk₂ hle => ?_)
        obtain ⟨F₂, N₂⟩ := hN h₂ hk₂
        exact hRR D C h₂ tk₂ m' ys news' F₂ (fun p hp => N₂ p (List.mem_cons_of_mem _ hp)) off'.one (hC'.ns (N₂ _ (List.mem_cons_self ..)).1) hC₀ hCL (Ne.symm hDC) (fun p hp => (off3 p hp).2.1) (hJt _ _ _ _ _ hJ' hle)
    · intro p hp
      rcases List.mem_cons.mp hp with rfl | hp
      · exact ⟨heC₀, hCL, hC₀⟩
      · rcases List.mem_cons.mp hp with rfl | hp
        · exact ⟨hacc, hDL, hD₀⟩
        · exact ⟨old _ _ (N p hp).1, (N p hp).2⟩
    · exact LCg.Off3.of fun p hp => by
        have hb : p.1 < D := by rw [← hD]; exact Heap.lt_size (N p hp).1
        exact ⟨off p hp, (lt _ hb).1, (lt _ hb).2⟩
  exact codeAny_compStart_list (loop _ rfl) (W.self 0 _ _ _ (W.frame _ _ _ hst fun b _ o e => old b o e) (loop _ rfl))
def CompAtG (prog : Program) (w : World) (A : Around) (h₀ : Heap) (L : Addr) (m : Str → Option Value) (env : Env) (elt target : Expr) (ifs : List Expr) (scope : Scope) (cl : List (Str × Addr)) (Q : Value → Shared → Prop) (it : Value) (s : Shared) : Prop :=
  ∃ (I : Addr) (fp : List Addr) (n : Nat) (P : Nat → Value → Prop) (St : Nat → Heap → Prop) (S : List (Addr × Obj) → Prop) (news : List (Addr × Obj)) (J : Nat → List Value → List (Addr × Obj) → Nat → Prop), it = .ref I ∧ Walks prog w A I fp [I] n P St ∧ n ≤ sizeLine ∧ (∀ i h, St i h → ∃ o, h.get? I = some o) ∧
    (∀ i h h' o nw, St i h → h.get? I = some o → h'.get? I = some o → (∀ b o, h₀.get? b = some o → h'.get? b = some o) → News h₀ L h' nw → S nw → St i h') ∧
    (∀ i ys nw t, J i ys nw t → S nw) ∧ (∀ i ys nw t, J i ys nw t → ys.length ≤ i) ∧ (∀ i ys nw t t', J i ys nw t → t ≤ t' → J i ys nw t') ∧
    St 0 s.heap ∧ (∀ b ∈ fp, b < s.heap.objs.size) ∧ Fr h₀ L s.heap m ∧ News h₀ L s.heap news ∧ L ≠ I ∧ h₀.get? I = none ∧ (∀ p ∈ news, p.1 ≠ I) ∧ J 0 [] news s.toks ∧
    GTurn prog w A h₀ L m env elt target ifs scope cl s n P J ∧ (∀ i (s' : Shared) v (Q' : Unit → Shared → Prop) (E' : Value → Shared → Prop), St i s'.heap → Q' () s' → wpAny (model prog w) A (letOwnedTupleGo target (.ref I) v) Q' E' s') ∧
    ∀ D h tk ys news', J n ys news' tk → Fr h₀ L h m → News h₀ L h ((D, LCg.lst ys) :: news') → LCg.Off1 D news' → Q (.ref D) { s with heap := h, toks := tk }

theorem comp_stopG {elt target iter : Expr} {ifs : List Expr} {scope : Scope} {cl : List (Str × Addr)} {pos : Pos} {Q : Value → Shared → Prop} (_F₀ : Fr h₀ L s.heap m)
    (hclos : closureFor scope env = pure cl) (hcell : ∀ y ∈ scope.names, y.2 ≠ .cell) (hkind : scope.kind = .function)
    (hnames : ∀ y ∈ scope.names, y.2 = .local → scope.names.lookup y.1 = some .local)
    (h : wpAny (model prog w) A (eval iter env) (fun xv s₁ => Stop (wpAny (model prog w) A (pyIter xv) (fun it s₂ => CompAtG prog w A h₀ L m env elt target ifs scope cl Q it s₂) E s₁)) E s)
    (hs : ∀ x, foldedSetIterable iter env x = pure x := by intro _; rfl) :
    wpAny (model prog w) A (eval (.ListComp elt [⟨target, iter, ifs, 0⟩] scope pos) env) Q E s := by
  rw [eval_ListComp]
  refine wpAny_comprehension_free (use := none) rfl hs hclos hkind hnames (wpAny_mono h (fun xv s₁ h₁ => wpAny_mono h₁ (fun it s₂ h₂ => ?_) fun _ _ e => e) fun _ _ e => e)
  obtain ⟨I, fp, n, P, St, S, news, J, rfl, W, hsz, hIo, hSt, hJS, hJl, hJt, hst, hfp, F, N, hIL, hI₀, off, hJ, turn, ht, fin⟩ := h₂
  refine block_G J W hsz hIo hSt hJS hJl hJt hcell hkind hst hfp F N hIL hI₀ off hJ turn ht ?_
  intro D C h tk m' ys news' F' N' o1 hn hC₀ hCL hCD offC hJn
  refine ⟨m', hn, fun h'' hs'' => fin D h'' tk ys news' hJn (F'.change hs'' hCL hC₀) (fun p hp => ?_) o1⟩
  refine ⟨hs''.extBut _ _ ?_ (N' p hp).1, (N' p hp).2⟩
  rcases List.mem_cons.mp hp with rfl | hp
  · exact Ne.symm hCD
  · exact offC p hp

theorem compG_list {ax : Addr} {vs : List Value} {elt target : Expr} {ifs : List Expr} {scope : Scope} {cl : List (Str × Addr)} {Q : Value → Shared → Prop} {news : List (Addr × Obj)} (J : Nat → List Value → List (Addr × Obj) → Nat → Prop)
    (hh : A.handled = none) (F : Fr h₀ L s.heap m) (N : News h₀ L s.heap news) (hJS : ∀ i ys nw t, J i ys nw t → LCg.SrcAt h₀ ax vs.toArray nw) (hsz : vs.length ≤ sizeLine)
    (hJl : ∀ i ys nw t, J i ys nw t → ys.length ≤ i) (hJt : ∀ i ys nw t t', J i ys nw t → t ≤ t' → J i ys nw t') (hJ : J 0 [] news s.toks)
    (turn : ∀ s' : Shared, (∃ h, s' = { s with heap := h }) → GTurn prog w A h₀ L m env elt target ifs scope cl s' vs.length (fun i v => vs[i]? = some v) J)
    (fin : ∀ D h tk ys news', J vs.length ys news' tk → Fr h₀ L h m → News h₀ L h ((D, LCg.lst ys) :: news') → LCg.Off1 D news' → Q (.ref D) { s with heap := h, toks := tk }) :
    wpAny (model prog w) A (pyIter (.ref ax)) (fun it s₂ => CompAtG prog w A h₀ L m env elt target ifs scope cl Q it s₂) E s := by
  have hl := (hJS _ _ _ _ hJ).list F.keep N
  have hlt : ax < s.heap.objs.size := by obtain ⟨_, e, _⟩ := hl; exact Heap.lt_size e
  refine wpAny_pyIter_list hl ?_
  have W := Walks.list (prog := prog) (w := w) hh s.heap.objs.size ax (Nat.ne_of_lt hlt) vs.toArray
  have e : vs.toArray.size = vs.length := by simp
  rw [e] at W
  refine ⟨_, _, vs.length, _, _, LCg.SrcAt h₀ ax vs.toArray, news, J, rfl, W, hsz, (fun i h st => by obtain ⟨o, e, _⟩ := st.1; exact ⟨o, e⟩), LCg.list_st, hJS, hJl, hJt, ⟨⟨_, Heap.get?_push_size _ rfl, rfl, rfl⟩, hl.push _⟩, ?_, F.push _, (fun p hp => ⟨Heap.get?_push_of_some _ (N p hp).1, (N p hp).2⟩), Nat.ne_of_lt F.ns.lt, next_is_new F, (fun p hp => Nat.ne_of_lt (Heap.lt_size (N p hp).1)), hJ, ?_, (fun i s' v Q' E' st q => go_list st.1 q), fin⟩
  · intro b hb
    show b < (s.heap.push _).objs.size
    rw [Heap.size_push]
    rcases List.mem_cons.mp hb with rfl | hb
    · exact Nat.lt_succ_self _
    · rw [List.mem_singleton.mp hb]; exact Nat.lt_succ_of_lt hlt
  · intro i v ys news I oI C oC D m' h t₀ tk E' hi hP
    exact turn _ ⟨_, rfl⟩ i v ys news I oI C oC D m' h t₀ tk E' hi (by simpa using hP)

def CompAtM (prog : Program) (w : World) (A : Around) (h₀ : Heap) (L : Addr) (m : Str → Option Value) (env : Env) (elt target : Expr) (ifs : List Expr) (scope : Scope) (cl : List (Str × Addr)) (mf : Addr → Str → Option Value) (Q : Value → Shared → Prop) (it : Value) (s : Shared) : Prop :=
  ∃ (I : Addr) (fp : List Addr) (n : Nat) (P : Nat → Value → Prop) (St : Nat → Heap → Prop) (S : List (Addr × Obj) → Prop) (news : List (Addr × Obj)) (J : Nat → List Value → List (Addr × Obj) → Nat → Prop), it = .ref I ∧ Walks prog w A I fp [I] n P St ∧ n ≤ sizeLine ∧ (∀ i h, St i h → ∃ o, h.get? I = some o) ∧
    (∀ i h h' o nw, St i h → h.get? I = some o → h'.get? I = some o → (∀ b o, h₀.get? b = some o → h'.get? b = some o) → News h₀ L h' nw → S nw → St i h') ∧
    (∀ i ys nw t, J i ys nw t → S nw) ∧ (∀ i ys nw t, J i ys nw t → ys.length ≤ i) ∧ (∀ i ys nw t t', J i ys nw t → t ≤ t' → J i ys nw t') ∧
    St 0 s.heap ∧ (∀ b ∈ fp, b < s.heap.objs.size) ∧ Fr h₀ L s.heap m ∧ News h₀ L s.heap news ∧ L ≠ I ∧ h₀.get? I = none ∧ (∀ p ∈ news, p.1 ≠ I) ∧ J 0 [] news s.toks ∧
    GTurn prog w A h₀ L m env elt target ifs scope cl s n P J ∧ (∀ i (s' : Shared) v (Q' : Unit → Shared → Prop) (E' : Value → Shared → Prop), St i s'.heap → Q' () s' → wpAny (model prog w) A (letOwnedTupleGo target (.ref I) v) Q' E' s') ∧
    ∀ D h tk ys news', J n ys news' tk → Fr h₀ L h (mf D) → News h₀ L h ((D, LCg.lst ys) :: news') → LCg.Off1 D news' → Q (.ref D) { s with heap := h, toks := tk }

theorem compM_walk {I : Addr} {o : Obj} {elt target : Expr} {ifs : List Expr} {scope : Scope} {cl : List (Str × Addr)} {mf : Addr → Str → Option Value} {Q : Value → Shared → Prop} {n : Nat} {P : Nat → Value → Prop} {St : Nat → Heap → Prop} {news : List (Addr × Obj)} (J : Nat → List Value → List (Addr × Obj) → Nat → Prop)
    (W : Walks prog w A I [I] [I] n P St) (hI : I = s.heap.objs.size) (hsz : n ≤ sizeLine) (alive : ∀ i h, St i h → ∃ o, h.get? I = some o)
    (hSt : ∀ i h h' o, St i h → h.get? I = some o → h'.get? I = some o → St i h') (hst : St 0 (s.heap.push o)) (F : Fr h₀ L s.heap m) (N : News h₀ L s.heap news)
    (hJl : ∀ i ys nw t, J i ys nw t → ys.length ≤ i) (hJt : ∀ i ys nw t t', J i ys nw t → t ≤ t' → J i ys nw t') (hJ : J 0 [] news s.toks)
    (turn : ∀ s' : Shared, (∃ h, s' = { s with heap := h }) → GTurn prog w A h₀ L m env elt target ifs scope cl s' n P J) (ht : ∀ v, letOwnedTupleGo target (.ref I) v = pure ())
    (fin : ∀ D h tk ys news', J n ys news' tk → Fr h₀ L h (mf D) → News h₀ L h ((D, LCg.lst ys) :: news') → LCg.Off1 D news' → Q (.ref D) { s with heap := h, toks := tk }) :
    CompAtM prog w A h₀ L m env elt target ifs scope cl mf Q (.ref I) { s with heap := s.heap.push o } := by
  subst hI
  refine ⟨_, _, n, _, _, fun _ => True, news, J, rfl, W, hsz, alive, (fun i h h' o nw a b c _ _ _ => hSt i h h' o a b c), (fun _ _ _ _ _ => trivial), hJl, hJt, hst, ?_, F.push _, (fun p hp => ⟨Heap.get?_push_of_some _ (N p hp).1, (N p hp).2⟩), Nat.ne_of_lt F.ns.lt, next_is_new F, (fun p hp => Nat.ne_of_lt (Heap.lt_size (N p hp).1)), hJ, turn _ ⟨_, rfl⟩, (fun i s' v Q' E' st q => by rw [ht]; exact wpAny_pure q), fin⟩
  intro b hb
  rw [List.mem_singleton.mp hb]
  show s.heap.objs.size < (s.heap.push _).objs.size
  rw [Heap.size_push]; exact Nat.lt_succ_self _

theorem compM_range {r : Addr} {a b : Int} {t u v : Tok} {n : Nat} {elt target : Expr} {ifs : List Expr} {scope : Scope} {cl : List (Str × Addr)} {mf : Addr → Str → Option Value} {Q : Value → Shared → Prop} {news : List (Addr × Obj)} (J : Nat → List Value → List (Addr × Obj) → Nat → Prop)
    (hh : A.handled = none) (hr : IsRange s.heap r a b 1 t u v) (hsm : Builtin.Range.small a b 1 = true) (hn : Builtin.Range.rangeSize a b 1 = ((n : Nat) : Int)) (hsz : n ≤ sizeLine) (F : Fr h₀ L s.heap m) (N : News h₀ L s.heap news)
    (hJl : ∀ i ys nw t, J i ys nw t → ys.length ≤ i) (hJt : ∀ i ys nw t t', J i ys nw t → t ≤ t' → J i ys nw t') (hJ : J 0 [] news s.toks)
    (turn : ∀ s' : Shared, (∃ h, s' = { s with heap := h }) → GTurn prog w A h₀ L m env elt target ifs scope cl s' n (fun i v => ∃ t, v = .int (a + (i : Int)) t) J) (ht : ∀ I v, letOwnedTupleGo target (.ref I) v = pure ())
    (fin : ∀ D h tk ys news', J n ys news' tk → Fr h₀ L h (mf D) → News h₀ L h ((D, LCg.lst ys) :: news') → LCg.Off1 D news' → Q (.ref D) { s with heap := h, toks := tk }) :
    wpAny (model prog w) A (pyIter (.ref r)) (fun it s₂ => CompAtM prog w A h₀ L m env elt target ifs scope cl mf Q it s₂) E s := by
  refine wpAny_pyIter_range hr hsm ?_
  refine compM_walk J (LCg.range_walks hh a n) rfl hsz (fun i h st => ⟨_, st⟩) ?_ (by show IsRangeIter _ _ _ _ _; rw [hn]; simpa using Heap.get?_push_size _ rfl) F N hJl hJt hJ turn (ht _) fin
  intro i h h' o st e e'
  have st' : h.get? _ = some _ := st
  show h'.get? _ = some _
  rw [e', ← e]; exact st'

theorem compM_list {ax : Addr} {vs : List Value} {elt target : Expr} {ifs : List Expr} {scope : Scope} {cl : List (Str × Addr)} {mf : Addr → Str → Option Value} {Q : Value → Shared → Prop} {news : List (Addr × Obj)} (J : Nat → List Value → List (Addr × Obj) → Nat → Prop)
    (hh : A.handled = none) (F : Fr h₀ L s.heap m) (N : News h₀ L s.heap news) (hJS : ∀ i ys nw t, J i ys nw t → LCg.SrcAt h₀ ax vs.toArray nw) (hsz : vs.length ≤ sizeLine)
    (hJl : ∀ i ys nw t, J i ys nw t → ys.length ≤ i) (hJt : ∀ i ys nw t t', J i ys nw t → t ≤ t' → J i ys nw t') (hJ : J 0 [] news s.toks)
    (turn : ∀ s' : Shared, (∃ h, s' = { s with heap := h }) → GTurn prog w A h₀ L m env elt target ifs scope cl s' vs.length (fun i v => vs[i]? = some v) J)
    (fin : ∀ D h tk ys news', J vs.length ys news' tk → Fr h₀ L h (mf D) → News h₀ L h ((D, LCg.lst ys) :: news') → LCg.Off1 D news' → Q (.ref D) { s with heap := h, toks := tk }) :
    wpAny (model prog w) A (pyIter (.ref ax)) (fun it s₂ => CompAtM prog w A h₀ L m env elt target ifs scope cl mf Q it s₂) E s := by
  have hl := (hJS _ _ _ _ hJ).list F.keep N
  have hlt : ax < s.heap.objs.size := by obtain ⟨_, e, _⟩ := hl; exact Heap.lt_size e
  refine wpAny_pyIter_list hl ?_
  have W := Walks.list (prog := prog) (w := w) hh s.heap.objs.size ax (Nat.ne_of_lt hlt) vs.toArray
  have e : vs.toArray.size = vs.length := by simp
  rw [e] at W
  refine ⟨_, _, vs.length, _, _, LCg.SrcAt h₀ ax vs.toArray, news, J, rfl, W, hsz, (fun i h st => by obtain ⟨o, e, _⟩ := st.1; exact ⟨o, e⟩), LCg.list_st, hJS, hJl, hJt, ⟨⟨_, Heap.get?_push_size _ rfl, rfl, rfl⟩, hl.push _⟩, ?_, F.push _, (fun p hp => ⟨Heap.get?_push_of_some _ (N p hp).1, (N p hp).2⟩), Nat.ne_of_lt F.ns.lt, next_is_new F, (fun p hp => Nat.ne_of_lt (Heap.lt_size (N p hp).1)), hJ, ?_, (fun i s' v Q' E' st q => go_list st.1 q), fin⟩
  · intro b hb
    show b < (s.heap.push _).objs.size
    rw [Heap.size_push]
    rcases List.mem_cons.mp hb with rfl | hb
    · exact Nat.lt_succ_self _
    · rw [List.mem_singleton.mp hb]; exact Nat.lt_succ_of_lt hlt
  · intro i v ys news I oI C oC D m' h t₀ tk E' hi hP
    exact turn _ ⟨_, rfl⟩ i v ys news I oI C oC D m' h t₀ tk E' hi (by simpa using hP)

theorem assign_stopM {elt target iter : Expr} {ifs : List Expr} {y : Str} {py : Pos} {scope : Scope} {cl : List (Str × Addr)} {pos spos : Pos} {Q : Flow → Shared → Prop} (F₀ : Fr h₀ L s.heap m) (hLe : env.locals = L)
    (hsw : swapsWith (.ListComp elt [⟨target, iter, ifs, 0⟩] scope pos) (some (.Name y py)) spos.line env = pure true)
    (hclos : closureFor scope env = pure cl) (hcell : ∀ z ∈ scope.names, z.2 ≠ .cell) (hkind : scope.kind = .function)
    (hnames : ∀ z ∈ scope.names, z.2 = .local → scope.names.lookup z.1 = some .local)
    (hy : env.kindOf y = some .local) (hp : (env.scope.kind == .class || (env.scope.kind == .module && env.locals != env.globals)) = false)
    (h : wpAny (model prog w) A (eval iter env) (fun xv s₁ => Stop (wpAny (model prog w) A (pyIter xv) (fun it s₂ => CompAtM prog w A h₀ L m env elt target ifs scope cl (fun D z => if z = y then some (.ref D) else m z) (fun _ s' => Q .next s') it s₂) E s₁)) E s)
    (hs : ∀ x, foldedSetIterable iter env x = pure x := by intro _; rfl) :
    wpAny (model prog w) A (exec (.Assign [.Name y py] (.ListComp elt [⟨target, iter, ifs, 0⟩] scope pos) spos) env) Q E s := by
  subst hLe
  rw [exec_Assign_Name_used _ _ _ _ hsw]
  refine wpAny_bind (wpAny_standAt (wpAny_bind ?_))
  show wpAny _ A (do let _ ← comprehension (.ListComp elt [⟨target, iter, ifs, 0⟩] scope pos) scope env _ (newList []) false (eval iter env) (some (assign (.Name y py) env))) _ _ s
  refine wpAny_bind (wpAny_mono (wpAny_comprehension_free (use := some (assign (.Name y py) env)) (Q := fun _ s' => Q .next s') rfl hs hclos hkind hnames
    (wpAny_mono h (fun xv s₁ h₁ => wpAny_mono h₁ (fun it s₂ h₂ => ?_) fun _ _ e => e) fun _ _ e => e)) (fun _ s' hq => wpAny_pure (wpAny_pure hq)) fun _ _ e => e)
  obtain ⟨I, fp, n, P, St, S, news, J, rfl, W, hsz, hIo, hSt, hJS, hJl, hJt, hst, hfp, F, N, hIL, hI₀, off, hJ, turn, ht, fin⟩ := h₂
  refine block_G J W hsz hIo hSt hJS hJl hJt hcell hkind hst hfp F N hIL hI₀ off hJ turn ht ?_
  intro D C h' tk m' ys news' F' N' o1 hn hC₀ hCL hCD offC hJn
  show wpAny _ A (assign (.Name y py) env (.ref D)) _ _ _
  refine wpAny_assign_Name (wpAny_storeName_local hy F'.ns (fun h₂ hn₂ hs₂ => ?_) hp)
  have hL₀ : h₀.get? env.locals = none := Heap.get?_none_of_le F'.above
  have F₂ : Fr h₀ env.locals h₂ (fun z => if z = y then some (.ref D) else m z) := ⟨hn₂, fun b o e => hs₂.extBut b o (fun q => by rw [q, hL₀] at e; cases e) (F'.keep b o e), F'.above⟩
  refine ⟨m', hn.sameBut hs₂ hCL, fun h'' hs'' => fin D h'' (tk + 1) ys news' (hJt _ _ _ _ _ hJn (Nat.le_succ _)) (F₂.change hs'' hCL hC₀) (fun p hp => ?_) o1⟩
  have z : h₂.get? p.1 = some p.2 := hs₂.extBut _ _ (N' p hp).2.1 (N' p hp).1
  refine ⟨hs''.extBut _ _ ?_ z, (N' p hp).2⟩
  rcases List.mem_cons.mp hp with rfl | hp
  · exact Ne.symm hCD
  · exact offC p hp
end
end Mine.P

end
section
open PySem PySem.W PyProof.Rows PySem.Spec PySem.Calls
namespace Mine
section
variable {prog : Program} {w : World} {A : Around} {E : Value → Shared → Prop} {s : Shared} {h₀ : Heap} {L : Addr} {m : Str → Option Value} {env : Env}
/-- a turn whose target is a pair of names, over lists of two -/
abbrev PTurn (prog : Program) (w : World) (A : Around) (h₀ : Heap) (L : Addr) (m : Str → Option Value) (env : Env) (elt : Expr) (a b : Str) (ifs : List Expr) (scope : Scope) (cl : List (Str × Addr)) (s : Shared) (n : Nat) (P : Nat → Value → Prop) (J : Nat → List Value → List (Addr × Obj) → Nat → Prop) : Prop :=
  ∀ (i : Nat) (l : Addr) (x y : Value) (k : Nat) (ys : List Value) (news : List (Addr × Obj)) (I : Addr) (oI : Obj) (C : Addr) (oC : Obj) (D : Addr) (m₂ : Str → Option Value) (h : Heap) (t₀ tk : Nat) (E' : Value → Shared → Prop), i < n → P i (.ref l) → (l, W.listOf #[x, y] k) ∈ news → J i ys news t₀ → t₀ ≤ tk → LCg.NsObj oC m₂ → m₂ a = some x → m₂ b = some y → Fr h₀ L h m → News h₀ L h ((I, oI) :: (C, oC) :: (D, LCg.lst ys) :: news) → LCg.Off3 I C D news → ((@Ne Nat I C) ∧ (@Ne Nat I D) ∧ (@Ne Nat C D)) →
    wpAny (model prog w) A (testsOf ifs (compEnvC scope cl C env)) (fun ok s₄ =>
      if ok = true then wpAny (model prog w) A (eval elt (compEnvC scope cl C env)) (fun y s₅ => GEnd h₀ L m { s with heap := h, toks := tk } I oI C D (LCg.lst ys) (fun news' tk' => J (i + 1) (ys ++ [y]) news' tk') s₅) E' s₄
      else GEnd h₀ L m { s with heap := h, toks := tk } I oI C D (LCg.lst ys) (fun news' tk' => J (i + 1) ys news' tk') s₄) E' { s with heap := h, toks := tk }
theorem store_comp {scope : Scope} {cl : List (Str × Addr)} {x : Str} {px : Pos} {v : Value} {I C D : Addr} {oI oC oD : Obj} {m' : Str → Option Value} {news : List (Addr × Obj)} {Q : Unit → Shared → Prop}
    (hx : scope.names.lookup x = some .local) (hkind : scope.kind = .function) (hC : LCg.NsObj oC m') (F : Fr h₀ L s.heap m) (N : News h₀ L s.heap ((I, oI) :: (C, oC) :: (D, oD) :: news)) (off : LCg.Off3 I C D news) (ne : (@Ne Nat I C) ∧ (@Ne Nat I D) ∧ (@Ne Nat C D)) (hCL : C ≠ L)
    (h : ∀ h₃ oC', LCg.NsObj oC' (fun z => if z = x then some v else m' z) → Fr h₀ L h₃ m → News h₀ L h₃ ((I, oI) :: (C, oC') :: (D, oD) :: news) → Q () { s with heap := h₃, toks := s.toks + 1 }) :
    wpAny (model prog w) A (assign (.Name x px) (compEnvC scope cl C env) v) Q E s := by
  have zC := N (C, oC) (List.mem_cons_of_mem _ (List.mem_cons_self ..))
  have o3 := off.mem
  refine wpAny_assign_Name (wpAny_storeName_local (lookup_relabel_local hx) (hC.ns zC.1) (fun h₃ hn₃ hs₃ => ?_) (by simp [compEnvC, relabel, hkind]))
  obtain ⟨oC', heC', hoC'⟩ := LCg.ns_obj hn₃
  refine h h₃ oC' hoC' (F.change hs₃ hCL zC.2.2) fun p hp => ?_
  rcases List.mem_cons.mp hp with rfl | hp
  · have z := N (I, oI) (List.mem_cons_self ..)
    exact ⟨hs₃.extBut _ _ ne.1 z.1, z.2⟩
  · rcases List.mem_cons.mp hp with rfl | hp
    · exact ⟨heC', zC.2⟩
    · have z := N p (List.mem_cons_of_mem _ (List.mem_cons_of_mem _ hp))
      refine ⟨hs₃.extBut _ _ ?_ z.1, z.2⟩
      rcases List.mem_cons.mp hp with rfl | hp
      · exact Ne.symm ne.2.2
      · exact (o3 p hp).2.1
theorem gturn_pair {elt : Expr} {a b : Str} {pa pb tp : Pos} {kk : Nat} {ifs : List Expr} {scope : Scope} {cl : List (Str × Addr)} {n : Nat} {P : Nat → Value → Prop} {J : Nat → List Value → List (Addr × Obj) → Nat → Prop}
    (hxa : scope.names.lookup a = some .local) (hxb : scope.names.lookup b = some .local) (hab : a ≠ b) (hkind : scope.kind = .function) (hh : A.handled = none)
    (hPJ : ∀ i v ys nw t, P i v → J i ys nw t → ∃ l x y k, v = .ref l ∧ (l, W.listOf #[x, y] k) ∈ nw)
    (turn : PTurn prog w A h₀ L m env elt a b ifs scope cl s n P J) : GTurn prog w A h₀ L m env elt (.Tuple [.Name a pa, .Name b pb] kk tp) ifs scope cl s n P J := by
  intro i v ys news I oI C oC D m' h t₀ tk E' hi hP hJ hle hC F N off ne hCL
  obtain ⟨l, x, y, k, rfl, hm⟩ := hPJ i v ys news t₀ hP hJ
  have zl := N (l, W.listOf #[x, y] k) (.tail _ (.tail _ (.tail _ hm)))
  refine kun_list F N ⟨_, zl.1, rfl, _, rfl⟩ hh rfl rfl fun h₁ F₁ N₁ => ?_
  show wpAny _ _ (assignInOrder [assign (.Name a pa) (compEnvC scope cl C env), assign (.Name b pb) (compEnvC scope cl C env)] [x, y]) _ _ _
  refine assignInOrder_cons (store_comp hxa hkind hC F₁ N₁ off ne hCL fun h₂ oC₂ hC₂ F₂ N₂ => ?_)
  refine assignInOrder_cons (store_comp hxb hkind hC₂ F₂ N₂ off ne hCL fun h₃ oC₃ hC₃ F₃ N₃ => ?_)
  refine assignInOrder_nil ?_
  refine wpAny_mono (turn i l x y k ys news I oI C oC₃ D _ h₃ t₀ (tk + 1 + 1) E' hi hP hm hJ (Nat.le_succ_of_le (Nat.le_succ_of_le hle)) hC₃ (by simp [hab]) (by simp) F₃ N₃ off ne) (fun ok s₄ h₄ => ?_) fun _ _ e => e
  cases ok with
  | false => exact h₄
  | true => exact h₄
theorem tests_one {c : Expr} {Q : Bool → Shared → Prop} (h : wpAny (model prog w) A (isTrue c env (eval c env)) Q E s) : wpAny (model prog w) A (testsOf [c] env) Q E s := wpAny_tests_one h
end
end Mine

end
section
open PySem PySem.W PyProof.Rows PySem.Spec PySem.Calls
namespace Mine
open PySem.SeqAt in
theorem item_same {A : Around} {s : Shared} {p q : Item} (hp : s.heap.IsList p.a #[.int p.k p.u, .str (tx p.x) p.v]) (hq : s.heap.IsList q.a #[.int q.k q.u, .str (tx q.x) q.v]) (e : p.dat = q.dat) (hu : A.units < cLine) : EqAt A s (.ref p.a) (.ref q.a) true := by
  by_cases h : p.a = q.a
  · rw [h]; exact EqAt.same _
  · refine EqAt.of_refs h ?_
    have e1 : p.k = q.k := congrArg Prod.fst e
    have e2 : p.x = q.x := congrArg Prod.snd e
    have := RcAt.lists (A := A) (e := fun _ => true) hp hq rfl hu (fun j h1 h2 => ?_)
    · exact this
    · match j, h1 with
      | 0, _ =>
        intro prog w E Q hQ
        exact wpAny_eqBool_int (by rw [e1]; simpa using hQ)
      | 1, _ =>
        intro prog w E Q hQ
        exact eqBool_str (by rw [e2]; simpa using hQ)
theorem items_same {A : Around} {s : Shared} (hu : A.units < cLine) : ∀ {its its' : List Item}, (∀ p ∈ its, s.heap.IsList p.a #[.int p.k p.u, .str (tx p.x) p.v]) → (∀ p ∈ its', s.heap.IsList p.a #[.int p.k p.u, .str (tx p.x) p.v]) → its.map Item.dat = its'.map Item.dat →
    All2 (fun v w => SeqAt.EqAt A s v w true) (its.map fun p => Value.ref p.a) (its'.map fun p => Value.ref p.a)
  | [], [], _, _, _ => .nil
  | [], _ :: _, _, _, e => nomatch e
  | _ :: _, [], _, _, e => nomatch e
  | p :: its, q :: its', h1, h2, e => by
    injection e with e1 e2
    exact .cons (item_same (h1 p (.head _)) (h2 q (.head _)) e1 hu) (items_same hu (fun p hp => h1 p (.tail _ hp)) (fun p hp => h2 p (.tail _ hp)) e2)
section
variable {prog : Program} {w : World} {A : Around} {E : Value → Shared → Prop} {s : Shared} {h₀ : Heap} {L : Addr} {m : Str → Option Value} {env : Env}
theorem led_mem {its : List Item} {p : Item} (h : p ∈ its) : (p.a, p.obj) ∈ led its := List.mem_map.mpr ⟨p, h, rfl⟩
theorem rows_all {D D' : Addr} {r : RowV} {rest rest' nw nw' all : List (Addr × Obj)} (N : News h₀ L s.heap all) (R : RowIs D r rest nw) (R' : RowIs D' r rest' nw') (h1 : ∀ p ∈ nw, p ∈ all) (h2 : ∀ p ∈ nw', p ∈ all) (hu : A.in1.units < cLine) :
    ∃ vs ws, s.heap.IsList D vs.toArray ∧ s.heap.IsList D' ws.toArray ∧ All2 (fun v w => SeqAt.EqAt A.in1 s v w true) vs ws := by
  obtain ⟨its, n, rfl, hd, _⟩ := R
  obtain ⟨its', n', rfl, hd', _⟩ := R'
  refine ⟨refs its, refs its', ⟨_, (N _ (h1 _ (.head _))).1, rfl, _, rfl⟩, ⟨_, (N _ (h2 _ (.head _))).1, rfl, _, rfl⟩, ?_⟩
  refine items_same hu ?_ ?_ ?_
  · intro p hp
    exact ⟨_, (N _ (h1 _ (.tail _ (List.mem_append_left _ (led_mem (List.mem_reverse.mp hp)))))).1, rfl, _, rfl⟩
  · intro p hp
    exact ⟨_, (N _ (h2 _ (.tail _ (List.mem_append_left _ (led_mem (List.mem_reverse.mp hp)))))).1, rfl, _, rfl⟩
  · rw [List.map_reverse, List.map_reverse]
    exact congrArg List.reverse (hd.trans hd'.symm)
theorem ne_rows {D D' : Addr} {r : RowV} {rest rest' nw nw' all : List (Addr × Obj)} {Q : Value → Shared → Prop} (N : News h₀ L s.heap all) (R : RowIs D r rest nw) (R' : RowIs D' r rest' nw') (h1 : ∀ p ∈ nw, p ∈ all) (h2 : ∀ p ∈ nw', p ∈ all) (hu : A.units + 1 < cLine) (h : Q (.bool false) s) :
    wpAny (model prog w) A (compareOp .NotEq (.ref D) (.ref D')) Q E s := by
  obtain ⟨vs, ws, a, b, c⟩ := rows_all (A := A) N R R' h1 h2 hu
  exact ne_same a b c (by omega) h
theorem eq_rows {D D' : Addr} {r : RowV} {rest rest' nw nw' all : List (Addr × Obj)} {Q : Value → Shared → Prop} (N : News h₀ L s.heap all) (R : RowIs D r rest nw) (R' : RowIs D' r rest' nw') (h1 : ∀ p ∈ nw, p ∈ all) (h2 : ∀ p ∈ nw', p ∈ all) (hu : A.units + 1 < cLine) (h : Q (.bool true) s) :
    wpAny (model prog w) A (compareOp .Eq (.ref D) (.ref D')) Q E s := by
  obtain ⟨vs, ws, a, b, c⟩ := rows_all (A := A) N R R' h1 h2 hu
  exact eq_same a b c (by omega) h
/-- a turn's end where nothing leaves the loop -/
def NPost (h₀ : Heap) (L : Addr) (J : (Str → Option Value) → List (Addr × Obj) → Prop) (I : Addr) (oI : Obj) (s₁ : Shared) (f : Flow) (s₂ : Shared) : Prop := f = .next ∧ TEnd h₀ L J I oI s₁ s₂
theorem stop_ForT {Q : Flow → Shared → Prop} {target iter : Expr} {pos : Pos} {body : List Stmt} (_F : Fr h₀ env.locals s.heap m)
    (h : wpAny (model prog w) A (eval iter env) (fun xv s₁ => Stop (wpAny (model prog w) A (pyIter xv) (fun it s₂ => LoopAtT prog w A h₀ env target body Q E it s₂) E s₁)) E s)
    (hs : ∀ x, foldedSetIterable iter env x = pure x := by intro _; rfl)
    (hE : PassesOwn (model prog w) A env E := by passes_own) :
    wpAny (model prog w) A (exec (.For target iter body [] pos) env) Q E s := For_invTF _F h hs
/-- a loop over a list of lists of two, of the ledger, that nobody changes -/
theorem iter_pairs {ax : Addr} {oA : Obj} {vs : List Value} {a b : Str} {pa pb tp : Pos} {kk : Nat} {body : List Stmt} {m₀ : Str → Option Value} {news : List (Addr × Obj)} {Q : Flow → Shared → Prop} (J : Inv)
    (hh : A.handled = none) (F : Fr h₀ env.locals s.heap m₀) (N : News h₀ env.locals s.heap news) (hl : s.heap.IsList ax vs.toArray) (hJm : ∀ i m nw, J m₀ news i m nw → (ax, oA) ∈ nw) (hj : J m₀ news 0 m₀ news)
    (hPJ : ∀ i v m nw, vs[i]? = some v → J m₀ news i m nw → ∃ l x y k, v = .ref l ∧ (l, W.listOf #[x, y] k) ∈ nw)
    (ha : env.kindOf a = some .local) (hb : env.kindOf b = some .local) (hp : (env.scope.kind == .class || (env.scope.kind == .module && env.locals != env.globals)) = false)
    (turn : ∀ i l x y k m₁ news₁ (s₁ : Shared) h tk I oI, vs[i]? = some (.ref l) → (l, W.listOf #[x, y] k) ∈ news₁ → J m₀ news i m₁ news₁ → (∀ p ∈ news₁, p.1 ≠ I) → Fr h₀ env.locals h (fun z => if z = b then some y else if z = a then some x else m₁ z) → News h₀ env.locals h ((I, oI) :: news₁) →
      wpAny (model prog w) A (execs body env) (NPost h₀ env.locals (J m₀ news (i + 1)) I oI { s₁ with heap := h, toks := tk }) E { s₁ with heap := h, toks := tk })
    (done : ∀ m₁ news₁ h tk, J m₀ news vs.length m₁ news₁ → Fr h₀ env.locals h m₁ → News h₀ env.locals h news₁ → Q .next { s with heap := h, toks := tk }) :
    wpAny (model prog w) A (pyIter (.ref ax)) (fun it s₂ => LoopAtT prog w A h₀ env (.Tuple [.Name a pa, .Name b pb] kk tp) body Q E it s₂) E s := by
  have hlt : ax < s.heap.objs.size := by obtain ⟨_, e, _⟩ := hl; exact Heap.lt_size e
  have hmA := hJm _ _ _ hj
  have zA := N (ax, oA) hmA
  refine wpAny_pyIter_list hl ?_
  have W := Walks.list (prog := prog) (w := w) hh s.heap.objs.size ax (Nat.ne_of_lt hlt) vs.toArray
  refine ⟨_, _, _, vs.toArray.size, _, _, m₀, news, (fun i m nw => J m₀ news i m nw), rfl, W, ?_, ?_, ?_, ⟨⟨_, Heap.get?_push_size _ rfl, rfl, rfl⟩, hl.push _⟩, F.push _, (fun p hp => ⟨Heap.get?_push_of_some _ (N p hp).1, (N p hp).2⟩), (fun i s' v Q' st q => P.go_list st.1 q), hj, ?_, ?_⟩
  · intro hm
    rcases List.mem_cons.mp hm with h | h
    · exact absurd F.ns.lt (h ▸ Nat.lt_irrefl _)
    · exact zA.2.1 (List.mem_singleton.mp h).symm
  · intro b hb
    rw [List.mem_singleton.mp hb]
    exact next_is_new F
  · intro p hp hI
    exact absurd (Heap.lt_size (N p hp).1) ((List.mem_singleton.mp hI) ▸ Nat.lt_irrefl _)
  · rintro i v m₁ news₁ s₁ own hin hP hJ hoff hsub hget hall hst₁ F₁ N₁
    obtain ⟨l, x, y, k, rfl, hm⟩ := hPJ i v m₁ news₁ (by simpa using hP) hJ
    obtain ⟨oI, hoI⟩ : ∃ oI, s₁.heap.get? s.heap.objs.size = some oI := by obtain ⟨o, e, _⟩ := hst₁.1; exact ⟨o, e⟩
    have hI₀ : h₀.get? s.heap.objs.size = none := next_is_new F
    have hmem : (s.heap.objs.size, oI) ∈ own := hall _ (List.mem_cons_self ..) hI₀ oI hoI
    have zA' := N₁ (ax, oA) (List.mem_append_right _ (hJm _ _ _ hJ))
    have hown : ∀ p ∈ own, p = (s.heap.objs.size, oI) ∨ p = (ax, oA) := fun p hp => by
      have h1 := hsub p hp
      have h2 := hget p hp
      rcases List.mem_cons.mp h1 with h1 | h1
      · rw [h1] at h2
        have h3 : some oI = some p.2 := hoI.symm.trans h2
        obtain ⟨p1, p2⟩ := p
        cases h1; cases h3; exact .inl rfl
      · have h1 := List.mem_singleton.mp h1
        rw [h1] at h2
        have h3 : some oA = some p.2 := zA'.1.symm.trans h2
        obtain ⟨p1, p2⟩ := p
        cases h1; cases h3; exact .inr rfl
    have hoff' : ∀ p ∈ news₁, p.1 ≠ s.heap.objs.size := fun p hp e => hoff p hp (List.mem_singleton.mpr e)
    have N₂ : News h₀ env.locals s₁.heap ((s.heap.objs.size, oI) :: news₁) := by
      intro p hp
      rcases List.mem_cons.mp hp with rfl | hp
      · exact N₁ _ (List.mem_append_left _ hmem)
      · exact N₁ p (List.mem_append_right _ hp)
    have zl := N₂ (l, PySem.W.listOf #[x, y] k) (.tail _ hm)
    refine kun_list F₁ N₂ ⟨_, zl.1, rfl, _, rfl⟩ hh rfl rfl fun h₁ F₁ N₁ => ?_
    show wpAny _ _ (assignInOrder [assign (.Name a pa) env, assign (.Name b pb) env] [x, y]) _ _ _
    refine assignInOrder_cons (wpAny_assign_Name (wpAny_storeName_local ha F₁.ns (fun h₂ hn₂ hs₂ => ?_) hp))
    have F₂ := F₁.set hn₂ hs₂
    have N₂ := N₁.set hs₂
    refine assignInOrder_cons (wpAny_assign_Name (wpAny_storeName_local hb F₂.ns (fun h₃ hn₃ hs₃ => ?_) hp))
    have F₃ := F₂.set hn₃ hs₃
    have N₃ := N₂.set hs₃
    refine assignInOrder_nil ?_
    refine wpAny_mono (turn i l x y k m₁ news₁ s₁ h₃ (s₁.toks + 1 + 1) s.heap.objs.size oI (by simpa using hP) hm hJ hoff' F₃ N₃) (fun f s₂ p => ?_) fun _ _ e => e
    obtain ⟨rfl, h', tk, m', news', e, F', N', off, hm'⟩ := p
    refine ⟨rfl, h', tk, m', news', e, F', fun p hp => ?_, fun p hp hI => off p hp (List.mem_singleton.mp hI), hm'⟩
    rcases List.mem_append.mp hp with hp | hp
    · rcases hown p hp with rfl | rfl
      · exact N' _ (List.mem_cons_self ..)
      · exact N' _ (List.mem_cons_of_mem _ (hJm _ _ _ hm'))
    · exact N' p (List.mem_cons_of_mem _ hp)
  · rintro h' tk m' news' F' N' _ hJ
    exact done m' news' h' tk (by simpa using hJ) F' N'
end
end Mine

end
section
open PySem PySem.W PyProof.Rows PySem.Spec PySem.Calls
namespace Mine
theorem off1_mem {D : Addr} : ∀ {l : List (Addr × Obj)}, LCg.Off1 D l → ∀ p ∈ l, p.1 ≠ D
  | [], _, _, h => nomatch h
  | _ :: _, x, p, h => by
    rcases List.mem_cons.mp h with rfl | h
    · exact x.1
    · exact off1_mem x.2 p h
section
variable {prog : Program} {w : World} {A : Around} {E : Value → Shared → Prop} {s : Shared} {h₀ : Heap} {L : Addr} {m : Str → Option Value} {env : Env}
theorem ofString_start : PySem.Str.ofString ".\\n" = tx [46, 92, 110] := by decide +kernel
/-- the loop that builds the row -/
def InvBuild (D : Addr) (ns : List Int) (rest : List (Addr × Obj)) : Inv := fun m₀ _ i m nw => ∃ v0, m = (fun y => if y = Str.ofString "x" then v0 else m₀ y) ∧ RowIs D (rowV (ns.take i)) rest nw
theorem iter_build {S D a Dm : Addr} {x : Str} {body : List Stmt} {ws ys : List Value} {ns : List Int} {u v : Tok} {m₀ : Str → Option Value} {Q : Flow → Shared → Prop} (hw : IntsAre ws ns) (hh : A.handled = none) (F : Fr h₀ env.locals s.heap m₀)
    (N : News h₀ env.locals s.heap [(S, W.listOf ws.toArray 0), (D, W.listOf #[.ref a] 0), (a, W.listOf #[.int 1 u, .str (PySem.Str.ofString ".\\n") v] 0), (Dm, LCg.lst ys)]) (l1 : D < S ∧ a < S ∧ Dm < S) (l2 : a < D ∧ Dm < D) (l3 : Dm < a)
    (turn : ∀ i k u' v0 nw h tk I oI, ns[i]? = some k → RowIs D (rowV (ns.take i)) [(S, W.listOf ws.toArray 0), (Dm, LCg.lst ys)] nw → (∀ p ∈ nw, p.1 ≠ I) → Fr h₀ env.locals h (fun z => if z = x then some (.int k u') else (fun y => if y = Str.ofString "x" then v0 else m₀ y) z) → News h₀ env.locals h ((I, oI) :: nw) →
      wpAny (model prog w) A (execs body env) (TPost h₀ env.locals (InvBuild D ns [(S, W.listOf ws.toArray 0), (Dm, LCg.lst ys)] m₀ [(D, W.listOf #[.ref a] 0), (a, W.listOf #[.int 1 u, .str (tx [46, 92, 110]) v] 0), (S, W.listOf ws.toArray 0), (Dm, LCg.lst ys)] (i + 1)) I oI { s with heap := h, toks := tk } Q) E { s with heap := h, toks := tk })
    (done : ∀ v0 nw h tk, RowIs D (rowV ns) [(S, W.listOf ws.toArray 0), (Dm, LCg.lst ys)] nw → Fr h₀ env.locals h (fun y => if y = Str.ofString "x" then v0 else m₀ y) → News h₀ env.locals h nw → Q .next { s with heap := h, toks := tk }) :
    wpAny (model prog w) A (pyIter (.ref S)) (fun it s₂ => LoopAtV prog w A h₀ env x body Q E it s₂) E s := by
  rw [ofString_start] at N
  have N₁ : News h₀ env.locals s.heap [(D, W.listOf #[.ref a] 0), (a, W.listOf #[.int 1 u, .str (tx [46, 92, 110]) v] 0), (S, W.listOf ws.toArray 0), (Dm, LCg.lst ys)] := News.sub N (by
    intro p hp
    simp only [List.mem_cons, List.not_mem_nil, or_false] at hp ⊢
    rcases hp with h | h | h | h
    · exact .inr (.inl h)
    · exact .inr (.inr (.inl h))
    · exact .inl h
    · exact .inr (.inr (.inr h)))
  have n1 : (a : Nat) ≠ D := Nat.ne_of_lt l2.1
  have n2 : (S : Nat) ≠ D := Nat.ne_of_gt l1.1
  have n3 : (Dm : Nat) ≠ D := Nat.ne_of_lt l2.2
  have n4 : (S : Nat) ≠ a := Nat.ne_of_gt l1.2.1
  have n5 : (Dm : Nat) ≠ a := Nat.ne_of_lt l3
  refine iter_mem (ax := S) (oA := W.listOf ws.toArray 0) (vs := ws) (InvBuild D ns [(S, W.listOf ws.toArray 0), (Dm, LCg.lst ys)]) hh F N₁ (News.isList N (.head _)) ?_ ?_ ?_ ?_
  · rintro i m nw ⟨_, _, R⟩
    exact R.rest _ (.head _)
  · refine ⟨m₀ (Str.ofString "x"), map_self _ _, [⟨a, 1, u, [46, 92, 110], v, 0⟩], 0, rfl, rfl, ?_, ?_, trivial⟩
    · intro q hq
      have hq' : q = (a, W.listOf #[.int 1 u, .str (tx [46, 92, 110]) v] 0) ∨ q = (S, W.listOf ws.toArray 0) ∨ q = (Dm, LCg.lst ys) := by simpa [led] using hq
      rcases hq' with rfl | rfl | rfl
      · exact n1
      · exact n2
      · exact n3
    · intro q hq
      have hq' : q = (S, W.listOf ws.toArray 0) ∨ q = (Dm, LCg.lst ys) := by simpa [led] using hq
      rcases hq' with rfl | rfl
      · exact n4
      · exact n5
  · rintro i v m₁ nw h tk I oI hi ⟨v0, rfl, R⟩ off F' N'
    obtain ⟨k, u', rfl, hk⟩ := IntsAre.at hw i v hi
    exact turn i k u' v0 nw h tk I oI hk R off F' N'
  · rintro m₁ nw h tk ⟨v0, rfl, R⟩ F' N'
    rw [hw.length, List.take_length] at R
    exact done v0 nw h tk R F' N'
theorem build_end {h' : Heap} {D I : Addr} {oI : Obj} {ns : List Int} {rest nw nw₀ : List (Addr × Obj)} {m₀ : Str → Option Value} {v0 v1 : Option Value} {i : Nat} {k : Int} {r : RowV} {s₁ : Shared} {tk : Nat} {Q : Flow → Shared → Prop}
    (F : Fr h₀ L h' (fun z => if z = Str.ofString "x" then v1 else (fun y => if y = Str.ofString "x" then v0 else m₀ y) z)) (N : News h₀ L h' ((I, oI) :: nw)) (R : RowIs D r rest nw) (off : ∀ p ∈ nw, p.1 ≠ I) (hk : ns[i]? = some k) (e : r = stepV (rowV (ns.take i)) k) :
    TPost h₀ L (InvBuild D ns rest m₀ nw₀ (i + 1)) I oI s₁ Q .next { s₁ with heap := h', toks := tk } := by
  rw [map_over] at F
  refine TPost.next (TEnd.mk' F N (fun p hp => hp) off ⟨v1, rfl, ?_⟩)
  have : rowV (ns.take (i + 1)) = stepV (rowV (ns.take i)) k := by
    rw [List.take_add_one, hk]; unfold rowV; rw [List.foldl_append]; rfl
  rw [this, ← e]
  exact R
/-- the items of a row, from the first -/
theorem row_at {its : List Item} {i : Nat} {v : Value} (h : (refs its)[i]? = some v) : ∃ p, p ∈ its ∧ v = .ref p.a ∧ (dats its).reverse[i]? = some p.dat := by
  unfold refs at h
  rw [List.getElem?_map] at h
  obtain ⟨p, hp, rfl⟩ := Option.map_eq_some_iff.mp h
  refine ⟨p, List.mem_reverse.mp (List.mem_of_getElem? hp), rfl, ?_⟩
  rw [dats, ← List.map_reverse, List.getElem?_map, hp]; rfl
/-- a comprehension over a row that makes a text of each item -/
theorem comp_row {D : Addr} {r : RowV} {rest nw : List (Addr × Obj)} {elt : Expr} {a b : Str} {pa pb tp : Pos} {kk : Nat} {scope : Scope} {cl : List (Str × Addr)} {Q : Value → Shared → Prop} (g : Int × List Nat → List Nat)
    (hxa : scope.names.lookup a = some .local) (hxb : scope.names.lookup b = some .local) (hab : a ≠ b) (hkind : scope.kind = .function) (hh : A.handled = none) (F : Fr h₀ L s.heap m) (N : News h₀ L s.heap nw) (R : RowIs D r rest nw) (hlen : r.length ≤ sizeLine)
    (turn : ∀ (k : Int) (x : List Nat) (u v : Tok) (I : Addr) (oI : Obj) (C : Addr) (oC : Obj) (Dd : Addr) (m₂ : Str → Option Value) (ys : List Value) (s₁ : Shared) (h : Heap) (tk : Nat) (E' : Value → Shared → Prop), (k, x) ∈ r → LCg.NsObj oC m₂ → m₂ a = some (.int k u) → m₂ b = some (.str (tx x) v) → Fr h₀ L h m → News h₀ L h ((I, oI) :: (C, oC) :: (Dd, LCg.lst ys) :: nw) → LCg.Off3 I C Dd nw → ((@Ne Nat I C) ∧ (@Ne Nat I Dd) ∧ (@Ne Nat C Dd)) →
      wpAny (model prog w) A (eval elt (compEnvC scope cl C env)) (CEnd h₀ L m { s₁ with heap := h, toks := tk } ((I, oI) :: (C, oC) :: (Dd, LCg.lst ys) :: nw) (fun y => ∃ t, y = .str (tx (g (k, x))) t)) E' { s₁ with heap := h, toks := tk })
    (fin : ∀ ys Dd h tk, All2 (fun p y => ∃ t, y = Value.str (tx (g p)) t) r.reverse ys → Fr h₀ L h m → News h₀ L h ((Dd, LCg.lst ys) :: nw) → LCg.Off1 Dd nw → Q (.ref Dd) { s with heap := h, toks := tk }) :
    wpAny (model prog w) A (pyIter (.ref D)) (fun it s₂ => P.CompAtG prog w A h₀ L m env elt (.Tuple [.Name a pa, .Name b pb] kk tp) [] scope cl Q it s₂) E s := by
  obtain ⟨its, n, e, hd, _⟩ := id R
  have hmem : (D, W.listOf (refs its).toArray n) ∈ nw := by rw [e]; exact .head _
  have hits : ∀ p ∈ its, (p.a, p.obj) ∈ nw := fun p hp => by rw [e]; exact .tail _ (List.mem_append_left _ (led_mem hp))
  let J : Nat → List Value → List (Addr × Obj) → Nat → Prop := fun i ys nw' _ => nw' = nw ∧ i ≤ r.length ∧ All2 (fun p y => ∃ t, y = Value.str (tx (g p)) t) (r.reverse.take i) ys
  have hlr : (refs its).length = r.length := by rw [refs_len, ← hd, dats_len]
  refine P.compG_list J hh F N (vs := refs its) ?_ (by rw [hlr]; exact hlen) ?_ (fun i ys nw t t' h _ => h) ⟨rfl, Nat.zero_le _, .nil⟩ ?_ ?_
  · rintro i ys nw' t ⟨rfl, _⟩
    exact .inr ⟨_, hmem, rfl, n, rfl⟩
  · rintro i ys nw' t ⟨_, hi, h⟩
    have := h.len
    rw [List.length_take, List.length_reverse] at this
    omega
  · rintro s' ⟨hp, rfl⟩
    refine gturn_pair hxa hxb hab hkind hh ?_ ?_
    · rintro i v ys nw' t hP ⟨rfl, _⟩
      obtain ⟨p, hp, rfl, _⟩ := row_at hP
      exact ⟨_, _, _, _, rfl, hits p hp⟩
    · rintro i l x y k ys nw' I oI C oC Dd m₂ h t₀ tk E' hin hP hm ⟨rfl, hj1, hj2⟩ hle hC hma hmb F' N' off ne
      obtain ⟨p, hp, ep, hpr⟩ := row_at hP
      rw [hd] at hpr
      have z1 := N' (l, W.listOf #[x, y] k) (.tail _ (.tail _ (.tail _ hm)))
      have z2 := N' (p.a, p.obj) (.tail _ (.tail _ (.tail _ (hits p hp))))
      injection ep with ep
      rw [ep] at z1
      have z3 := Option.some.inj (z1.1.symm.trans z2.1)
      injection z3 with _ _ z4
      injection z4 with z5 _
      have z6 : [x, y] = [.int p.k p.u, .str (tx p.x) p.v] := congrArg Array.toList z5
      injection z6 with zx z7
      injection z7 with zy _
      subst zx; subst zy
      refine tests_nil ?_
      simp only [if_true]
      refine wpAny_mono (turn p.k p.x p.u p.v I oI C oC Dd m₂ ys _ h tk E' (List.mem_reverse.mp (List.mem_of_getElem? hpr)) hC hma hmb F' N' off ne) (fun y s₂ hq => ?_) fun _ _ e => e
      obtain ⟨h', tk', e', F₂, N₂, hr⟩ := hq
      refine ⟨h', tk', oC, m₂, nw', e', F₂, N₂, off, hC, rfl, (by rw [hlr] at hin; exact hin), ?_⟩
      rw [List.take_add_one, hpr]
      exact hj2.snoc hr
  · rintro Dd h tk ys news' ⟨rfl, hj1, hj2⟩ F' N' o1
    rw [hlr, ← List.length_reverse, List.take_length] at hj2
    exact fin ys Dd h tk hj2 F' N' o1
/-- an element's end: a new list of two -/
def LowEnd (h₀ : Heap) (L : Addr) (m : Str → Option Value) (s₁ : Shared) (base : List (Addr × Obj)) (k : Int) (x : List Nat) (y : Value) (s₂ : Shared) : Prop :=
  ∃ h' tk l u t, s₂ = { s₁ with heap := h', toks := tk } ∧ y = .ref l ∧ Fr h₀ L h' m ∧ News h₀ L h' ((l, W.listOf #[.int k u, .str (tx x) t] 0) :: base) ∧ ∀ p ∈ base, p.1 ≠ l
/-- a comprehension over a row that makes a new item of each, assigned to a name -/
theorem comp_low {D : Addr} {r : RowV} {rest nw : List (Addr × Obj)} {elt : Expr} {a b : Str} {pa pb tp : Pos} {kk : Nat} {scope : Scope} {cl : List (Str × Addr)} {mf : Addr → Str → Option Value} {Q : Value → Shared → Prop} (g : List Nat → List Nat)
    (hxa : scope.names.lookup a = some .local) (hxb : scope.names.lookup b = some .local) (hab : a ≠ b) (hkind : scope.kind = .function) (hh : A.handled = none) (F : Fr h₀ L s.heap m) (N : News h₀ L s.heap nw) (all : List (Addr × Obj)) (R : RowIs D r rest all) (hs : ∀ p ∈ all, p ∈ nw) (hlen : r.length ≤ sizeLine)
    (turn : ∀ (k : Int) (x : List Nat) (u v : Tok) (I : Addr) (oI : Obj) (C : Addr) (oC : Obj) (Dd : Addr) (m₂ : Str → Option Value) (ys : List Value) (nw' : List (Addr × Obj)) (s₁ : Shared) (h : Heap) (tk : Nat) (E' : Value → Shared → Prop), (k, x) ∈ r → LCg.NsObj oC m₂ → m₂ a = some (.int k u) → m₂ b = some (.str (tx x) v) → Fr h₀ L h m → News h₀ L h ((I, oI) :: (C, oC) :: (Dd, LCg.lst ys) :: nw') → LCg.Off3 I C Dd nw' → ((@Ne Nat I C) ∧ (@Ne Nat I Dd) ∧ (@Ne Nat C Dd)) →
      wpAny (model prog w) A (eval elt (compEnvC scope cl C env)) (LowEnd h₀ L m { s₁ with heap := h, toks := tk } ((I, oI) :: (C, oC) :: (Dd, LCg.lst ys) :: nw') k (g x)) E' { s₁ with heap := h, toks := tk })
    (fin : ∀ Dl h tk nw'', RowIs Dl (r.map fun p => (p.1, g p.2)) nw nw'' → Fr h₀ L h (mf Dl) → News h₀ L h nw'' → Q (.ref Dl) { s with heap := h, toks := tk }) :
    wpAny (model prog w) A (pyIter (.ref D)) (fun it s₂ => P.CompAtM prog w A h₀ L m env elt (.Tuple [.Name a pa, .Name b pb] kk tp) [] scope cl mf Q it s₂) E s := by
  obtain ⟨its, n, e, hd, _⟩ := id R
  have hmem : (D, W.listOf (refs its).toArray n) ∈ nw := hs _ (by rw [e]; exact .head _)
  have hits : ∀ p ∈ its, (p.a, p.obj) ∈ nw := fun p hp => hs _ (by rw [e]; exact .tail _ (List.mem_append_left _ (led_mem hp)))
  let J : Nat → List Value → List (Addr × Obj) → Nat → Prop := fun i ys nw' _ => ∃ its', nw' = led its' ++ nw ∧ ys = refs its' ∧ i ≤ r.length ∧ dats its' = ((r.reverse.take i).map fun p => (p.1, g p.2)).reverse ∧ Apart nw its'
  have hlr : (refs its).length = r.length := by rw [refs_len, ← hd, dats_len]
  refine P.compM_list J hh F N (vs := refs its) ?_ (by rw [hlr]; exact hlen) ?_ (fun i ys nw t t' h _ => h) ⟨[], rfl, rfl, Nat.zero_le _, rfl, trivial⟩ ?_ ?_
  · rintro i ys nw' t ⟨its', rfl, _⟩
    exact .inr ⟨_, List.mem_append_right _ hmem, rfl, n, rfl⟩
  · rintro i ys nw' t ⟨its', _, rfl, hi, hd', _⟩
    rw [refs_len, ← dats_len, hd']
    simp; omega
  · rintro s' ⟨hp, rfl⟩
    refine gturn_pair hxa hxb hab hkind hh ?_ ?_
    · rintro i v ys nw' t hP ⟨its', rfl, _⟩
      obtain ⟨p, hp, rfl, _⟩ := row_at hP
      exact ⟨_, _, _, _, rfl, List.mem_append_right _ (hits p hp)⟩
    · rintro i l x y k ys nw' I oI C oC Dd m₂ h t₀ tk E' hin hP hm ⟨its', rfl, rfl, hj1, hj2, hj3⟩ hle hC hma hmb F' N' off ne
      obtain ⟨p, hp, ep, hpr⟩ := row_at hP
      rw [hd] at hpr
      have z1 := N' (l, W.listOf #[x, y] k) (.tail _ (.tail _ (.tail _ hm)))
      have z2 := N' (p.a, p.obj) (.tail _ (.tail _ (.tail _ (List.mem_append_right _ (hits p hp)))))
      injection ep with ep
      rw [ep] at z1
      have z3 := Option.some.inj (z1.1.symm.trans z2.1)
      injection z3 with _ _ z4
      injection z4 with z5 _
      have z6 : [x, y] = [.int p.k p.u, .str (tx p.x) p.v] := congrArg Array.toList z5
      injection z6 with zx z7
      injection z7 with zy _
      subst zx; subst zy
      refine tests_nil ?_
      simp only [if_true]
      refine wpAny_mono (turn p.k p.x p.u p.v I oI C oC Dd m₂ _ _ _ h tk E' (List.mem_reverse.mp (List.mem_of_getElem? hpr)) hC hma hmb F' N' off ne) (fun y s₂ hq => ?_) fun _ _ e => e
      obtain ⟨h', tk', l', u', t', e', rfl, F₂, N₂, hne⟩ := hq
      refine ⟨h', tk', oC, m₂, (l', W.listOf #[.int p.k u', .str (tx (g p.x)) t'] 0) :: (led its' ++ nw), e', F₂, News.sub N₂ ?_, ?_, hC, ⟨l', p.k, u', g p.x, t', 0⟩ :: its', rfl, ?_, (by rw [hlr] at hin; exact hin), ?_, ?_, hj3⟩
      · intro q hq
        rcases List.mem_cons.mp hq with rfl | hq
        · exact .tail _ (.head _)
        · rcases List.mem_cons.mp hq with rfl | hq
          · exact .tail _ (.tail _ (.head _))
          · rcases List.mem_cons.mp hq with rfl | hq
            · exact .tail _ (.tail _ (.tail _ (.head _)))
            · rcases List.mem_cons.mp hq with rfl | hq
              · exact .head _
              · exact .tail _ (.tail _ (.tail _ (.tail _ hq)))
      · exact ⟨⟨Ne.symm (hne (I, oI) (.head _)), Ne.symm (hne (C, oC) (.tail _ (.head _))), Ne.symm (hne (Dd, _) (.tail _ (.tail _ (.head _))))⟩, off⟩
      · rw [refs_cons]
      · rw [List.take_add_one, hpr]
        rw [List.map_append, List.reverse_append, ← hj2]
        rfl
      · intro q hq
        exact hne q (.tail _ (.tail _ (.tail _ hq)))
  · rintro Dl h tk ys news' ⟨its', rfl, rfl, hj1, hj2, hj3⟩ F' N' o1
    rw [hlr, ← List.length_reverse, List.take_length] at hj2
    refine fin Dl h tk _ ⟨its', (refs its').length, rfl, ?_, ?_, hj3⟩ F' N'
    · rw [hj2, List.map_reverse, List.reverse_reverse]
    · exact off1_mem o1
/-- the loop over the items of a row that grows octets -/
def InvOct (r : RowV) : Inv := fun m₀ nw₀ i m nw => nw = nw₀ ∧ ∃ v1 v2 v3 t, m = fun y => if y = Str.ofString "kind" then v1 else if y = Str.ofString "signs" then v2 else if y = Str.ofString "part" then v3 else if y = Str.ofString "octets" then some (.bytes (octs ((r.reverse.take i).map partOf).flatten) t) else m₀ y
theorem oct_start {r : RowV} {m₀ : Str → Option Value} {nw : List (Addr × Obj)} {t : Tok} (h : m₀ (Str.ofString "octets") = some (.bytes #[] t)) : InvOct r m₀ nw 0 m₀ nw := by
  refine ⟨rfl, m₀ (Str.ofString "kind"), m₀ (Str.ofString "signs"), m₀ (Str.ofString "part"), t, ?_⟩
  funext y
  by_cases h1 : y = Str.ofString "kind"
  · subst h1; simp
  · by_cases h2 : y = Str.ofString "signs"
    · subst h2; simp [h1]
    · by_cases h3 : y = Str.ofString "part"
      · subst h3; simp [h1, h2]
      · by_cases h4 : y = Str.ofString "octets"
        · subst h4; simp [h1, h2, h3, h]; rfl
        · simp [h1, h2, h3, h4]
theorem mapOct {m₀ : Str → Option Value} {a b c d a' b' c' d' : Option Value} : (fun y => if y = Str.ofString "octets" then d' else if y = Str.ofString "part" then c' else if y = Str.ofString "signs" then b' else if y = Str.ofString "kind" then a' else (fun y => if y = Str.ofString "kind" then a else if y = Str.ofString "signs" then b else if y = Str.ofString "part" then c else if y = Str.ofString "octets" then d else m₀ y) y) =
    fun y => if y = Str.ofString "kind" then a' else if y = Str.ofString "signs" then b' else if y = Str.ofString "part" then c' else if y = Str.ofString "octets" then d' else m₀ y := by
  have d1 : Str.ofString "octets" ≠ Str.ofString "part" := by decide
  have d2 : Str.ofString "octets" ≠ Str.ofString "signs" := by decide
  have d3 : Str.ofString "octets" ≠ Str.ofString "kind" := by decide
  have d4 : Str.ofString "part" ≠ Str.ofString "signs" := by decide
  have d5 : Str.ofString "part" ≠ Str.ofString "kind" := by decide
  have d6 : Str.ofString "signs" ≠ Str.ofString "kind" := by decide
  funext y
  by_cases h1 : y = Str.ofString "octets"
  · subst h1; simp [d1, d2, d3]
  · by_cases h2 : y = Str.ofString "part"
    · subst h2; simp [h1, d4, d5]
    · by_cases h3 : y = Str.ofString "signs"
      · subst h3; simp [h1, h2, d6]
      · by_cases h4 : y = Str.ofString "kind"
        · subst h4; simp [h1, h2, h3]
        · simp [h1, h2, h3, h4]
theorem octs_append (a b : List Nat) : octs (a ++ b) = octs a ++ octs b := by simp [octs]
/-- a loop over the items of a row -/
theorem iter_row {D : Addr} {r : RowV} {a b : Str} {pa pb tp : Pos} {kk : Nat} {body : List Stmt} {rest nw : List (Addr × Obj)} {m₀ : Str → Option Value} {Q : Flow → Shared → Prop}
    (hh : A.handled = none) (F : Fr h₀ env.locals s.heap m₀) (N : News h₀ env.locals s.heap nw) (R : RowIs D r rest nw) (hj : InvOct r m₀ nw 0 m₀ nw)
    (ha : env.kindOf a = some .local) (hb : env.kindOf b = some .local) (hp : (env.scope.kind == .class || (env.scope.kind == .module && env.locals != env.globals)) = false)
    (turn : ∀ i k x u v v1 v2 v3 t (s₁ : Shared) h tk I oI, r.reverse[i]? = some (k, x) → (∀ p ∈ nw, p.1 ≠ I) → Fr h₀ env.locals h (fun z => if z = b then some (.str (tx x) v) else if z = a then some (.int k u) else (fun y => if y = Str.ofString "kind" then v1 else if y = Str.ofString "signs" then v2 else if y = Str.ofString "part" then v3 else if y = Str.ofString "octets" then some (.bytes (octs ((r.reverse.take i).map partOf).flatten) t) else m₀ y) z) → News h₀ env.locals h ((I, oI) :: nw) →
      wpAny (model prog w) A (execs body env) (NPost h₀ env.locals (InvOct r m₀ nw (i + 1)) I oI { s₁ with heap := h, toks := tk }) E { s₁ with heap := h, toks := tk })
    (done : ∀ v1 v2 v3 t h tk, Fr h₀ env.locals h (fun y => if y = Str.ofString "kind" then v1 else if y = Str.ofString "signs" then v2 else if y = Str.ofString "part" then v3 else if y = Str.ofString "octets" then some (.bytes (octs (writV r)) t) else m₀ y) → News h₀ env.locals h nw → Q .next { s with heap := h, toks := tk }) :
    wpAny (model prog w) A (pyIter (.ref D)) (fun it s₂ => LoopAtT prog w A h₀ env (.Tuple [.Name a pa, .Name b pb] kk tp) body Q E it s₂) E s := by
  obtain ⟨its, n, e, hd, _⟩ := id R
  have hmem : (D, W.listOf (refs its).toArray n) ∈ nw := by rw [e]; exact .head _
  have hits : ∀ p ∈ its, (p.a, p.obj) ∈ nw := fun p hp => by rw [e]; exact .tail _ (List.mem_append_left _ (led_mem hp))
  have hlr : (refs its).length = r.length := by rw [refs_len, ← hd, dats_len]
  refine iter_pairs (InvOct r) hh F N (News.isList N hmem) (vs := refs its) (oA := W.listOf (refs its).toArray n) ?_ hj ?_ ha hb hp ?_ ?_
  · rintro i m nw' ⟨rfl, _⟩; exact hmem
  · rintro i v m nw' hP ⟨rfl, _⟩
    obtain ⟨p, hp, rfl, _⟩ := row_at hP
    exact ⟨_, _, _, _, rfl, hits p hp⟩
  · rintro i l x y k m₁ nw' s₁ h tk I oI hP hm ⟨rfl, v1, v2, v3, t, rfl⟩ off F' N'
    obtain ⟨p, hp, ep, hpr⟩ := row_at hP
    rw [hd] at hpr
    have z1 := N' (l, W.listOf #[x, y] k) (.tail _ hm)
    have z2 := N' (p.a, p.obj) (.tail _ (hits p hp))
    injection ep with ep
    rw [ep] at z1
    have z3 := Option.some.inj (z1.1.symm.trans z2.1)
    injection z3 with _ _ z4
    injection z4 with z5 _
    have z6 : [x, y] = [.int p.k p.u, .str (tx p.x) p.v] := congrArg Array.toList z5
    injection z6 with zx z7
    injection z7 with zy _
    subst zx; subst zy
    exact turn i p.k p.x p.u p.v v1 v2 v3 t s₁ h tk I oI hpr off F' N'
  · rintro m₁ nw' h tk ⟨rfl, v1, v2, v3, t, rfl⟩ F' N'
    rw [hlr, ← List.length_reverse, List.take_length] at F'
    exact done v1 v2 v3 t h tk F' N'
theorem oct_end {h' : Heap} {I : Addr} {oI : Obj} {r : RowV} {nw : List (Addr × Obj)} {m₀ : Str → Option Value} {a b c d a' b' c' : Option Value} {i : Nat} {k : Int} {x y : List Nat} {t : Tok} {s₁ : Shared} {tk : Nat}
    (F : Fr h₀ L h' (fun y' => if y' = Str.ofString "octets" then some (.bytes (octs ((r.reverse.take i).map partOf).flatten ++ octs y) t) else if y' = Str.ofString "part" then c' else if y' = Str.ofString "signs" then b' else if y' = Str.ofString "kind" then a' else (fun y => if y = Str.ofString "kind" then a else if y = Str.ofString "signs" then b else if y = Str.ofString "part" then c else if y = Str.ofString "octets" then d else m₀ y) y'))
    (N : News h₀ L h' ((I, oI) :: nw)) (off : ∀ p ∈ nw, p.1 ≠ I) (hr : r.reverse[i]? = some (k, x)) (e : y = partOf (k, x)) :
    NPost h₀ L (InvOct r m₀ nw (i + 1)) I oI s₁ .next { s₁ with heap := h', toks := tk } := by
  rw [mapOct, ← octs_append] at F
  refine ⟨rfl, TEnd.mk' F N (fun p hp => hp) off ⟨rfl, a', b', c', t, ?_⟩⟩
  rw [List.take_add_one, hr, List.map_append, List.flatten_append, e]
  simp
end
end Mine

end
section
open PySem PySem.W PyProof.Rows PySem.Spec PySem.Calls
namespace Mine
theorem noI_bytes_add : typeLookup (.type "bytes") (dunderI "add") = pure none := by rw [typeLookup_type, builtinLookup_eq_fast]; kernel_rfl
section
variable {prog : Program} {w : World} {A : Around} {E : Value → Shared → Prop} {s : Shared} {b c : Array UInt8} {t u : Tok} {Q : Value → Shared → Prop}
open PySem.W.KBy in
theorem iadd_bytes (hsz : b.size + c.size ≤ 16777216) (h : ∀ t' k, Q (.bytes (b ++ c) t') { s with toks := k }) : wpAny (model prog w) A (inplaceOp .Add (.bytes b t) (.bytes c u)) Q E s := by
  refine iconcat_gives (typeIs_bytes s b t) (typeIs_bytes s c u) noI_bytes_add noFill_bytes_add seq_bytes_add FB.slot_bytes_add FB.entry_bytes_add (FB.args_bytes_add_2 _ _) (gives_bytes_add (tooLong_not hsz)) ?_
  by_cases hb : b.isEmpty = true
  · rw [if_pos hb]
    have e : b = #[] := Array.isEmpty_iff.1 hb
    have h' := h u s.toks
    rw [e, Array.empty_append] at h'
    exact h'
  · rw [if_neg hb]
    by_cases hc : c.isEmpty = true
    · rw [if_pos hc]
      have e : c = #[] := Array.isEmpty_iff.1 hc
      have h' := h t s.toks
      rw [e, Array.append_empty] at h'
      exact h'
    · rw [if_neg hc]
      exact ⟨by rw [Array.size_append, sizeLine_eq]; exact hsz, h s.toks (s.toks + 1)⟩
end
end Mine

end
section
open PySem PySem.W PyProof.Rows PySem.Spec PySem.Calls
namespace Mine

theorem esc_fit {b : Array UInt8} (h : 2 * b.size ≤ sizeLine) : (⟨(esc (b.map UInt8.toNat).toList).toArray⟩ : PySem.Str).cps.size ≤ sizeLine := by
  have := esc_len (b.map UInt8.toNat).toList
  simp at this ⊢
  omega
theorem esc_b256 {b : Array UInt8} : ∀ c ∈ (⟨(esc (b.map UInt8.toNat).toList).toArray⟩ : PySem.Str).cps, c < 256 := by
  intro c hc
  refine esc_small (l := (b.map UInt8.toNat).toList) ?_ c (by simpa using hc)
  intro d hd
  have hd' : ∃ a, a ∈ b ∧ a.toNat = d := by simpa using hd
  obtain ⟨e, _, rfl⟩ := hd'
  exact e.toNat_lt
theorem octs_eq {b : Array UInt8} : (⟨(esc (b.map UInt8.toNat).toList).toArray⟩ : PySem.Str).cps.map Nat.toUInt8 = octs (esc (cpsOf b)) := by
  simp [octs, cpsOf]
local macro_rules | `(tactic| walk_at "call builtin:str.translate") => `(tactic| (k_here; (with_reducible show wpAny _ _ (call (Value.builtin "str.translate") [Value.str _ _, Value.ref _]) _ _ _); k_dflt (refine' tr_step ?k1 ?k2 ?k3 ?k4 ?k5 ?k6 ?k7 ?k8 ?_; (case k1 => k_asm); (case k2 => k_asm); (case k3 => k_asm); (case k4 => rfl); (case k5 => decide +kernel); (case k6 => rfl); (case k7 => rfl); (case k8 => first | assumption | (simp only [Array.size_map]; assumption)); k_whole); intro h' tk' t' F' N'))
local macro_rules | `(tactic| walk_at "getMethod str") => `(tactic| (k_here; first | refine gm_translate ?_ | refine gm_encode ?_))
local macro_rules | `(tactic| walk_at "call type:str") => `(tactic| (k_here; (with_reducible show wpAny _ _ (call (Value.type "str") [Value.bytes _ _, Value.str _ _]) _ _ _); refine str_latin1 (by omega) ?_; intro t' k'))
local macro_rules | `(tactic| walk_at "call builtin:str.encode") => `(tactic| (k_here; (with_reducible show wpAny _ _ (call (Value.builtin "str.encode") [Value.str _ _, Value.str _ _]) _ _ _); refine encode_call (esc_fit (by assumption)) esc_b256 ?_; intro t' k'))

theorem escape_str {w : World} {mean : ExcName → Option Value} {mg mb : Str → Option Value} (x : Str) (t : Tok) (news : List (Addr × Obj)) (hx : 2 * x.cps.size ≤ sizeLine) :
  Claim 1 Challenge.rw_dn0142_02.row.prog w (hd.heap_39 w.params) hd.view_39 (looseW hd.view_39 [Str.ofString "_special_chars_map"]) mean mg mb 26 news [.str x t] (fun t' => .str (tx (esc x.cps.toList)) t') := by
  w_top off
  k_fill
  dsimp only [Claim]
  intros
  rename_i hret
  refine wpAny_call ?_
  k_dflt cell_enter
  k_steps
  exact hret _ _ _ (by assumption) (by assumption)
theorem escape_bytes {w : World} {mean : ExcName → Option Value} {mg mb : Str → Option Value} (b : Array UInt8) (t : Tok) (news : List (Addr × Obj)) (hb : 2 * b.size ≤ sizeLine) :
  Claim 1 Challenge.rw_dn0142_02.row.prog w (hd.heap_39 w.params) hd.view_39 (looseW hd.view_39 [Str.ofString "_special_chars_map"]) mean mg mb 26 news [.bytes b t] (fun t' => .bytes (octs (esc (cpsOf b))) t') := by
  w_top off
  k_fill
  dsimp only [Claim]
  intros
  rename_i hret
  refine wpAny_call ?_
  k_dflt cell_enter
  k_steps
  rw [octs_eq]
  exact hret _ _ _ (by assumption) (by assumption)
end Mine

end
section
open PySem PySem.W PyProof.Rows PySem.Spec PySem.Calls
namespace Mine
theorem special_call {w : World} {mean : ExcName → Option Value} {mg mb : Str → Option Value} (c : Nat) (t : Tok) (news : List (Addr × Obj)):
  Claim 1 Challenge.rw_dn0142_02.row.prog w (hd.heap_39 w.params) hd.view_39 (looseW hd.view_39 [Str.ofString "_special_chars_map"]) mean mg mb 33 news [.str ⟨#[c]⟩ t] (fun _ => .bool (special c)) := by
  w_top off
  k_fill
  dsimp only [Claim]
  intros
  rename_i hret
  refine wpAny_call ?_
  k_dflt cell_enter
  k_steps
  all_goals (refine cb_retB hret ?_ (by assumption) (by first | assumption | exact Mine.News.tl (by assumption)))
  all_goals clear hret
  all_goals first | exact (special_iff.mpr (by omega)).symm | exact special_any (by omega)
end Mine

end
section
open PySem PySem.W PyProof.Rows PySem.Spec PySem.Calls
namespace Mine
local macro_rules | `(tactic| walk_at "binaryOp Mod int int") => `(tactic| (k_here; refine mod_val (by assumption) (by decide) ?_; intro _ _))
theorem fm (x m : Int) (h : 0 ≤ m) : x.fmod m = x % m := Int.fmod_eq_emod_of_nonneg _ h
theorem fd (x m : Int) (h : 0 ≤ m) : x.fdiv m = x / m := Int.fdiv_eq_ediv_of_nonneg _ h
theorem sg0 {x : Int} (h : x.fmod 3 = 1) (h2 : (x.fdiv 3).fmod 2 = 0) : PySem.Str.ofString "\\" = tx [signOf x] := by
  rw [ofString_bs]; rw [fm _ _ (by decide)] at h; rw [fm _ _ (by decide), fd _ _ (by decide)] at h2; unfold signOf; rw [if_pos h, if_pos h2]
theorem sg1 {x : Int} (h : x.fmod 3 = 1) (h2 : (x.fdiv 3).fmod 2 = 1) : (⟨#[((x.fdiv 6).fmod 128).toNat]⟩ : PySem.Str) = tx [signOf x] := by
  rw [fm _ _ (by decide)] at h; rw [fm _ _ (by decide), fd _ _ (by decide)] at h2; unfold signOf; rw [if_pos h, if_neg (by omega), fm _ _ (by decide), fd _ _ (by decide)]
theorem sg2 {x : Int} (h : x.fmod 3 ≠ 1) : (⟨#[((x.fdiv 3).fmod 55296).toNat]⟩ : PySem.Str) = tx [signOf x] := by
  rw [fm _ _ (by decide)] at h; unfold signOf; rw [if_neg h, fm _ _ (by decide), fd _ _ (by decide)]
theorem sign_call {w : World} {mean : ExcName → Option Value} {mg mb : Str → Option Value} (x : Int) (t : Tok) (news : List (Addr × Obj)) :
  Claim 1 Challenge.rw_dn0142_02.row.prog w (hd.heap_39 w.params) hd.view_39 (looseW hd.view_39 [Str.ofString "_special_chars_map"]) mean mg mb 40 news [.int x t] (fun t' => .str (tx [signOf x]) t') := by
  w_top off
  k_fill
  have hk : (x.fmod 3 = 1 ∧ (x.fdiv 3).fmod 2 = 0) ∨ (x.fmod 3 = 1 ∧ (x.fdiv 3).fmod 2 = 1) ∨ x.fmod 3 = 0 ∨ x.fmod 3 = 2 := by rw [fm _ _ (by decide), fm _ _ (by decide)]; omega
  dsimp only [Claim]
  intros
  rename_i hret
  refine wpAny_call ?_
  k_dflt cell_enter
  rcases hk with ⟨hk, h2⟩ | ⟨hk, h2⟩ | hk | hk
  all_goals k_steps
  all_goals (refine cb_retS hret ?_ (by assumption) (by first | assumption | exact Mine.News.tl (by assumption)))
  all_goals clear hret
  · exact sg0 hk h2
  · exact sg1 hk h2
  · exact sg2 (by omega)
  · exact sg2 (by omega)
end Mine

end
section
open PySem PySem.W PyProof.Rows PySem.Spec PySem.Calls
namespace Mine
local macro_rules | `(tactic| k_all) => `(tactic| first | assumption | exact ne_allLt (by assumption) | exact ne_lt (by assumption))
local macro_rules | `(tactic| walk_at "subscriptTail Name UnaryOp ref int") => `(tactic| (k_here; k_dflt (refine' last_item ?l ?n ?_; (case l => exact News.isList (by assumption) (by k_mem)); (case n => omega))))
theorem txs_fit {x l : List Nat} (hx : x.length ≤ 100000) (hl : l.length ≤ 100000) : (tx x).cps.size + (tx l).cps.size ≤ sizeLine := by rw [sizeLine_eq]; simp; omega
local macro_rules | `(tactic| walk_at "inplaceOp Add str str") => `(tactic| (k_here; refine iadd_rule (txs_fit (by assumption) (by assumption)) ?_; intro _ _))
local macro_rules | `(tactic| walk_at "call builtin:list.append") => `(tactic| (k_here; (with_reducible show wpAny _ _ (call (Value.builtin _) [Value.ref _, _]) _ _ _); k_dflt (refine' append_K ?k1 ?k2 ?k3 ?_ ?z; (case k1 => k_asm); (case k2 => k_asm); (case k3 => k_upd); (case z => (rw [sizeLine_eq]; simp; try omega)); k_whole); intro h' F' N'))
theorem lay_nil {w : World} {mean : ExcName → Option Value} {mg mb : Str → Option Value} (D : Addr) (n : Nat) (l : List Nat) (t : Tok) (news : List (Addr × Obj)) (hD : ∀ q ∈ news, q.1 ≠ D) :
  ClaimP 1 Challenge.rw_dn0142_02.row.prog w (hd.heap_39 w.params) hd.view_39 (looseW hd.view_39 [Str.ofString "_special_chars_map"]) mean mg mb 47 ((D, W.listOf #[] n) :: news) [.ref D, .str (tx l) t]
    (fun v nw => v = .none ∧ ∃ a u, nw = (a, W.listOf #[.int 1 u, .str (tx l) t] 0) :: (D, W.listOf #[.ref a] (n + 1)) :: news ∧ (@Ne Nat D a) ∧ (∀ q ∈ news, q.1 ≠ a)) := by
  w_top off
  k_fill
  dsimp only [ClaimP]
  intros
  rename_i hret
  refine wpAny_call ?_
  k_dflt cell_enter
  k_steps
  refine ne_nil_no (News.isList (by assumption) (.tail _ (.head _))) (News.isList (by assumption) (.head _)) rfl rfl ?_ ?_
  · first | ktr_units | k_units
  k_steps
  rename News _ _ _ _ => kN
  rename _ ∧ _ ∧ AllLt _ _ => l1
  exact hret _ _ _ _ ⟨rfl, _, _, rfl, Nat.ne_of_lt l1.2.1, ne_allLt l1.2.2⟩ (by assumption) (News.sub kN sub_second)
theorem lay_one {w : World} {mean : ExcName → Option Value} {mg mb : Str → Option Value} (D a : Addr) (vs : List Value) (u v : Tok) (n n' : Nat) (x l : List Nat) (t : Tok) (news : List (Addr × Obj)) (hD : ∀ q ∈ news, q.1 ≠ D) (ha : ∀ q ∈ news, q.1 ≠ a) (hDa : @Ne Nat D a) (hn : vs.length ≤ 100000) (hx : x.length ≤ 100000) (hl : l.length ≤ 100000) :
  ClaimP 1 Challenge.rw_dn0142_02.row.prog w (hd.heap_39 w.params) hd.view_39 (looseW hd.view_39 [Str.ofString "_special_chars_map"]) mean mg mb 47 ((D, W.listOf (vs ++ [Value.ref a]).toArray n) :: (a, W.listOf #[.int 1 u, .str (tx x) v] n') :: news) [.ref D, .str (tx l) t]
    (fun r nw => r = .none ∧ ∃ v'', nw = (D, W.listOf (vs ++ [Value.ref a]).toArray n) :: (a, W.listOf #[.int 1 u, .str (tx (x ++ l)) v''] n') :: news) := by
  w_top off
  k_fill
  dsimp only [ClaimP]
  intros
  rename_i hret
  refine wpAny_call ?_
  k_dflt cell_enter
  k_steps
  refine ne_nil_yes (News.isList (by assumption) (.tail _ (.head _))) (News.isList (by assumption) (.head _)) (by simp) rfl ?_ ?_
  · first | ktr_units | k_units
  k_steps
  rename News _ _ _ _ => kN
  exact hret _ _ _ _ ⟨rfl, _, rfl⟩ (by assumption) (Mine.News.tl kN)
theorem lay_other {w : World} {mean : ExcName → Option Value} {mg mb : Str → Option Value} (D a : Addr) (vs : List Value) (k : Int) (hk : k ≠ 1) (u v : Tok) (n n' : Nat) (x l : List Nat) (t : Tok) (news : List (Addr × Obj)) (hD : ∀ q ∈ news, q.1 ≠ D) (ha : ∀ q ∈ news, q.1 ≠ a) (hDa : @Ne Nat D a) (hn : vs.length ≤ 100000) :
  ClaimP 1 Challenge.rw_dn0142_02.row.prog w (hd.heap_39 w.params) hd.view_39 (looseW hd.view_39 [Str.ofString "_special_chars_map"]) mean mg mb 47 ((D, W.listOf (vs ++ [Value.ref a]).toArray n) :: (a, W.listOf #[.int k u, .str (tx x) v] n') :: news) [.ref D, .str (tx l) t]
    (fun r nw => r = .none ∧ ∃ b u', nw = (b, W.listOf #[.int 1 u', .str (tx l) t] 0) :: (D, W.listOf ((vs ++ [Value.ref a]).toArray.push (.ref b)) (n + 1)) :: (a, W.listOf #[.int k u, .str (tx x) v] n') :: news ∧ (@Ne Nat D b) ∧ (∀ q ∈ (a, W.listOf #[.int k u, .str (tx x) v] n') :: news, q.1 ≠ b)) := by
  w_top off
  k_fill
  dsimp only [ClaimP]
  intros
  rename_i hret
  refine wpAny_call ?_
  k_dflt cell_enter
  k_steps
  refine ne_nil_yes (News.isList (by assumption) (.tail _ (.head _))) (News.isList (by assumption) (.head _)) (by simp) rfl ?_ ?_
  · first | ktr_units | k_units
  k_steps
  · exact absurd (by assumption) hk
  · rename News _ _ _ _ => kN
    rename _ ∧ _ ∧ _ ∧ AllLt _ _ => l1
    exact hret _ _ _ _ ⟨rfl, _, _, rfl, Nat.ne_of_lt l1.2.1, List.forall_mem_cons.mpr ⟨Nat.ne_of_lt l1.2.2.1, ne_allLt l1.2.2.2⟩⟩ (by assumption) (News.sub kN sub_second)
theorem lay_call {w : World} {mean : ExcName → Option Value} {mg mb : Str → Option Value} (D : Addr) (r : RowV) (l : List Nat) (t : Tok) (news nw : List (Addr × Obj)) (hR : RowIs D r news nw) (hl : l.length ≤ 100000) (hi : r.length ≤ 100000) (hx : sumV r ≤ 100000) :
  ClaimP 1 Challenge.rw_dn0142_02.row.prog w (hd.heap_39 w.params) hd.view_39 (looseW hd.view_39 [Str.ofString "_special_chars_map"]) mean mg mb 47 nw [.ref D, .str (tx l) t] (fun v nw' => v = .none ∧ RowIs D (layV r l) news nw') := by
  obtain ⟨its, n, rfl, rfl, hD, hA⟩ := hR
  rw [dats_len] at hi
  intro dp un gd cn cs a ccd cl outer A₀ base h₀ L m s Q E B F X N T hk hd hu ret
  cases its with
  | nil =>
    refine lay_nil D n l t news hD dp un gd cn cs a ccd cl outer A₀ base h₀ L m s Q E B F X N T hk hd hu ?_
    rintro v h' tk' news' ⟨rfl, b, u, rfl, h1, h2⟩ F' N'
    refine ret _ h' tk' _ ⟨rfl, [⟨b, 1, u, l, t, 0⟩], n + 1, rfl, rfl, ?_, ?_, trivial⟩ F' (News.sub N' swap_sub)
    · exact List.forall_mem_cons.mpr ⟨Ne.symm h1, hD⟩
    · exact h2
  | cons p its =>
    have hp : p.x.length ≤ 100000 := Nat.le_trans (sum_mem (r := dats (p :: its)) (p := p.dat) (by simp [dats])) hx
    have hDp : @Ne Nat D p.a := Ne.symm (hD (p.a, p.obj) (List.mem_cons_self ..))
    have hD' : ∀ q ∈ led its ++ news, q.1 ≠ D := fun q hq => hD q (List.mem_cons_of_mem _ hq)
    have hv : (refs its).length ≤ 100000 := by rw [refs_len]; simp at hi; omega
    have N₁ : News h₀ L s.heap ((D, W.listOf (refs its ++ [Value.ref p.a]).toArray n) :: (p.a, p.obj) :: (led its ++ news)) := by rw [← refs_cons]; exact N
    by_cases hk1 : p.k = 1
    · obtain ⟨pa, pk, pu, px, pv, pn⟩ := p
      dsimp only at hk1
      subst hk1
      refine lay_one D pa (refs its) pu pv n pn px l t (led its ++ news) hD' hA.1 hDp hv hp hl dp un gd cn cs a ccd cl outer A₀ base h₀ L m s Q E B F X N₁ T hk hd hu ?_
      rintro v h' tk' news' ⟨rfl, v'', rfl⟩ F' N'
      refine ret _ h' tk' _ ⟨rfl, ⟨pa, 1, pu, px ++ l, v'', pn⟩ :: its, n, rfl, ?_, ?_, hA⟩ F' (by rw [refs_cons]; exact N')
      · show _ = layV ((1, px) :: dats its) l
        rw [layV_one]; rfl
      · exact List.forall_mem_cons.mpr ⟨Ne.symm hDp, hD'⟩
    · obtain ⟨pa, pk, pu, px, pv, pn⟩ := p
      refine lay_other D pa (refs its) pk hk1 pu pv n pn px l t (led its ++ news) hD' hA.1 hDp hv dp un gd cn cs a ccd cl outer A₀ base h₀ L m s Q E B F X N₁ T hk hd hu ?_
      rintro v h' tk' news' ⟨rfl, b, u', rfl, h1, h2⟩ F' N'
      refine ret _ h' tk' _ ⟨rfl, ⟨b, 1, u', l, t, 0⟩ :: ⟨pa, pk, pu, px, pv, pn⟩ :: its, n + 1, rfl, ?_, ?_, h2, hA⟩ F' ?_
      · show _ = layV ((pk, px) :: dats its) l
        rw [layV_other hk1]; rfl
      · exact List.forall_mem_cons.mpr ⟨Ne.symm h1, hD⟩
      · have e : (refs (⟨b, 1, u', l, t, 0⟩ :: ⟨pa, pk, pu, px, pv, pn⟩ :: its)).toArray = (refs its ++ [Value.ref pa]).toArray.push (.ref b) := by rw [refs_cons, refs_cons]; simp
        rw [e]
        exact News.sub N' swap_sub
/-- the same within a turn of a loop -/
theorem lay_turn {w : World} {mean : ExcName → Option Value} {mg mb : Str → Option Value} (D I : Addr) (oI : Obj) (r : RowV) (l : List Nat) (t : Tok) (rest nw : List (Addr × Obj)) (hR : RowIs D r rest nw) (off : ∀ p ∈ nw, p.1 ≠ I) (hl : l.length ≤ 100000) (hi : r.length ≤ 100000) (hx : sumV r ≤ 100000) :
  ClaimP 1 Challenge.rw_dn0142_02.row.prog w (hd.heap_39 w.params) hd.view_39 (looseW hd.view_39 [Str.ofString "_special_chars_map"]) mean mg mb 47 ((I, oI) :: nw) [.ref D, .str (tx l) t] (fun v nw' => v = .none ∧ ∃ nw'', nw' = (I, oI) :: nw'' ∧ RowIs D (layV r l) rest nw'' ∧ ∀ p ∈ nw'', p.1 ≠ I) := by
  intro dp un gd cn cs a ccd cl outer A₀ base h₀ L m s Q E B F X N T hk hd hu ret
  obtain ⟨nw₁, hR₁, hsub⟩ := hR.add (oI := oI) off
  refine lay_call D r l t _ nw₁ hR₁ hl hi hx dp un gd cn cs a ccd cl outer A₀ base h₀ L m s Q E B F X (News.sub N hsub) T hk hd hu ?_
  rintro v h' tk' news' ⟨rfl, hR'⟩ F' N'
  obtain ⟨nw₂, hR₂, hs₂, ho₂⟩ := hR'.rem (fun p hp => off p (hR.rest p hp))
  exact ret _ h' tk' _ ⟨rfl, nw₂, rfl, hR₂, ho₂⟩ F' (News.sub N' hs₂)
end Mine

end
section
open PySem PySem.W PyProof.Rows PySem.Spec PySem.Calls
namespace Mine
local macro_rules | `(tactic| k_all) => `(tactic| first | assumption | exact ne_allLt (by assumption) | exact ne_lt (by assumption))
local macro_rules | `(tactic| walk_at "call ref") => `(tactic| (k_here; (with_reducible show wpAny _ _ (call (Value.ref 33) [Value.str _ _]) _ _ _); k_dflt (refine' claim_use (special_call _ _ _) ?k1 ?k2 ?k3 ?k4 ?k5 ?k6 ?k7 ?k8 ?_; (case k1 => k_asm); (case k2 => k_asm); (case k3 => k_asm); (case k4 => k_asm); (case k5 => k_asm); (case k6 => first | exact rfl | assumption); (case k7 => ktr_room); (case k8 => ktr_units)); intro t9 h9 tk9 F9 N9; (try dsimp only); (try k_fold)))
local macro_rules | `(tactic| walk_at "call ref") => `(tactic| (k_here; (with_reducible show wpAny _ _ (call (Value.ref 47) [Value.ref _, Value.str _ _]) _ _ _); k_dflt (refine' claimP_use (lay_turn _ _ _ _ [_] _ _ _ (by assumption) (by assumption) (by simp) (by omega) (by omega)) ?k1 ?k2 ?k3 ?k4 (fun _ hp => hp) ?k5 ?k6 ?k7 ?k8 ?_; (case k1 => k_asm); (case k2 => k_asm); (case k3 => k_asm); (case k4 => k_asm); (case k5 => k_asm); (case k6 => first | exact rfl | assumption); (case k7 => first | ktr_room | k_room); (case k8 => first | ktr_units | k_units)); intro v9 h9 tk9 nw9 P9 F9 N9; obtain ⟨e9, nw8, e8, R9, o9⟩ := P9; subst e9; subst e8; (try dsimp only); (try k_fold)))
local macro_rules | `(tactic| walk_at "exec For") => `(tactic| (k_here; (rename Fr _ _ _ _ => lF'); (with_unfolding_all refine' stop_For lF' ?k1 ?k2 ?_; (case k1 => exact rfl); (case k2 => exact rfl); k_whole)))
local macro_rules | `(tactic| walk_at "call builtin:list.append") => `(tactic| (k_here; (with_reducible show wpAny _ _ (call (Value.builtin _) [Value.ref _, Value.ref _]) _ _ _); k_dflt (refine' row_append (x := [_]) ?k1 ?k2 ?k3 ?k4 ?k5 ?k6 ?_; (case k1 => k_asm); (case k2 => k_asm); (case k3 => assumption); (case k4 => assumption); (case k5 => exact ne_allLt (by assumption)); (case k6 => omega)); intro h' nw7 R7 o7 F' N'))
local macro_rules | `(tactic| walk_at "getMethod ref") => `(tactic| (k_here; k_dflt (refine RowIs.gm (by assumption) (fun _ hp => List.mem_cons_of_mem _ hp) (by assumption) ?_)))
theorem read_call {w : World} {mean : ExcName → Option Value} {mg mb : Str → Option Value} (v : Value) (l : List Nat) (fin : RowV) (news : List (Addr × Obj)) (hv : Signs v l news) (hl : l.length ≤ 10000) (hf : readV false [] l = some fin) :
  ClaimP 2 Challenge.rw_dn0142_02.row.prog w (hd.heap_39 w.params) hd.view_39 (looseW hd.view_39 [Str.ofString "_special_chars_map"]) mean mg mb 54 news [v] (fun r nw => ∃ D, r = .ref D ∧ RowIs D fin news nw) := by
  w_top off
  k_fill
  dsimp only [ClaimP]
  intros
  rename_i hret
  refine wpAny_call ?_
  k_dflt cell_enter
  k_steps
  unfold Stop
  refine iter_read (by assumption) hv hf rfl (by assumption) (by assumption) rfl ?turn ?done
  case turn =>
    rintro i c u m₁ news₁ h tk I oI hc ⟨v0, held, r, rfl, hR, hrd, hr1, hr2⟩ off F' N'
    have hil : i < l.length := by
      rcases Nat.lt_or_ge i l.length with h | h
      · exact h
      · rw [List.getElem?_eq_none h] at hc; cases hc
    cases held
    · k_steps
      · exact read_end (by assumption) (by assumption) mapRead1 hR off hc hrd (st_bs (by assumption)) (Nat.le_succ _) (Nat.le_succ _) hr1 hr2
      · exact read_end (by assumption) (by assumption) mapRead2 (by assumption) (by assumption) hc hrd (st_mark (by assumption) (by assumption)) (row1_len _ _) (row1_sum _ _ _) hr1 hr2
      · exact read_end (by assumption) (by assumption) mapRead2 (by assumption) (by assumption) hc hrd (readV_sign (by assumption) r) (lay_len _ _) (lay1_sum _ _) hr1 hr2
    · k_steps
      · exact read_end (by assumption) (by assumption) mapRead1 (by assumption) (by assumption) hc hrd (readV_held (by assumption) r) (lay_len _ _) (lay1_sum _ _) hr1 hr2
      · exact (read_none hc hrd (by assumption)).elim
  case done =>
    rintro m₁ news₁ h tk ⟨v0, held, r, rfl, hR, hrd, hr1, hr2⟩ F' N'
    rw [List.drop_length] at hrd
    cases held
    · cases hrd
      k_steps
      exact hret _ _ _ _ ⟨_, rfl, hR⟩ (by assumption) (by assumption)
    · cases hrd
end Mine

end
section
open PySem PySem.W PyProof.Rows PySem.Spec PySem.Calls
namespace Mine
theorem stop_open {P : Prop} (h : P) : Stop P := h
theorem stop_any {P : Prop} (h : Stop P) : P := h
theorem escape_tx {w : World} {mean : ExcName → Option Value} {mg mb : Str → Option Value} (l : List Nat) (t : Tok) (news : List (Addr × Obj)) (hx : l.length ≤ 100000) :
  Claim 1 Challenge.rw_dn0142_02.row.prog w (hd.heap_39 w.params) hd.view_39 (looseW hd.view_39 [Str.ofString "_special_chars_map"]) mean mg mb 26 news [.str (tx l) t] (fun t' => .str (tx (esc l)) t') :=
  escape_str (tx l) t news (by rw [sizeLine_eq]; simp; omega)
theorem escape_octs {w : World} {mean : ExcName → Option Value} {mg mb : Str → Option Value} (l : List Nat) (t : Tok) (news : List (Addr × Obj)) (hs : ∀ c ∈ l, c < 256) (hx : l.length ≤ 100000) :
  Claim 1 Challenge.rw_dn0142_02.row.prog w (hd.heap_39 w.params) hd.view_39 (looseW hd.view_39 [Str.ofString "_special_chars_map"]) mean mg mb 26 news [.bytes (octs l) t] (fun t' => .bytes (octs (esc l)) t') := by
  have := escape_bytes (w := w) (mean := mean) (mg := mg) (mb := mb) (octs l) t news (by rw [sizeLine_eq]; simp [octs]; omega)
  rw [cpsOf_octs hs] at this
  exact this
local macro_rules | `(tactic| k_all) => `(tactic| first | assumption | exact ne_allLt (by assumption) | exact ne_lt (by assumption))
local macro_rules | `(tactic| walk_at "exec Assign cons ListComp") => `(tactic| (k_here; k_dflt (refine P.assign_stopM (by k_asm) (by rfl) (by with_unfolding_all rfl) (by with_unfolding_all rfl) (by decide) (by rfl) (by decide) (by rfl) (by rfl) ?_)))
local macro_rules | `(tactic| walk_at "eval ListComp") => `(tactic| (k_here; (with_reducible show wpAny _ _ (eval (Expr.ListComp _ [⟨Expr.Tuple _ _ _, _, _, _⟩] _ _) _) _ _ _); k_dflt (refine P.comp_stopG (by k_asm) (by with_unfolding_all rfl) (by decide) (by rfl) (by decide) ?_)))
local macro_rules | `(tactic| walk_at "eval ListComp") => `(tactic| (k_here; (with_reducible show wpAny _ _ (eval (Expr.ListComp _ [⟨Expr.Name _ _, _, _, _⟩] _ _) _) _ _ _); k_dflt (refine comp_stop (by k_asm) (by with_unfolding_all rfl) (by decide) (by rfl) (by decide) (by rfl) ?_)))
local macro_rules | `(tactic| walk_at "call ref") => `(tactic| (k_here; (with_reducible show wpAny _ _ (call (Value.ref 33) [Value.str _ _]) _ _ _); k_dflt (refine' claim_use (special_call _ _ _) ?k1 ?k2 ?k3 ?k4 ?k5 ?k6 ?k7 ?k8 ?_; (case k1 => k_asm); (case k2 => k_asm); (case k3 => k_asm); (case k4 => k_asm); (case k5 => k_asm); (case k6 => first | exact rfl | assumption); (case k7 => first | ktr_room | k_room); (case k8 => first | ktr_units | k_units)); intro t9 h9 tk9 F9 N9; (try dsimp only); (try k_fold)))
local macro_rules | `(tactic| walk_at "call ref") => `(tactic| (k_here; (with_reducible show wpAny _ _ (call (Value.ref 40) [Value.int _ _]) _ _ _); k_dflt (refine' claim_use (sign_call _ _ _) ?k1 ?k2 ?k3 ?k4 ?k5 ?k6 ?k7 ?k8 ?_; (case k1 => k_asm); (case k2 => k_asm); (case k3 => k_asm); (case k4 => k_asm); (case k5 => k_asm); (case k6 => first | exact rfl | assumption); (case k7 => first | ktr_room | k_room); (case k8 => first | ktr_units | k_units)); intro t9 h9 tk9 F9 N9; (try dsimp only); (try k_fold)))
local macro_rules | `(tactic| walk_at "call ref") => `(tactic| (k_here; (with_reducible show wpAny _ _ (call (Value.ref 26) [Value.str _ _]) _ _ _); k_dflt (refine' claim_use (escape_tx _ _ _ (by first | assumption | omega)) ?k1 ?k2 ?k3 ?k4 ?k5 ?k6 ?k7 ?k8 ?_; (case k1 => k_asm); (case k2 => k_asm); (case k3 => k_asm); (case k4 => k_asm); (case k5 => k_asm); (case k6 => first | exact rfl | assumption); (case k7 => first | ktr_room | k_room); (case k8 => first | ktr_units | k_units)); intro t9 h9 tk9 F9 N9; (try dsimp only); (try k_fold)))
local macro_rules | `(tactic| walk_at "call ref") => `(tactic| (k_here; (with_reducible show wpAny _ _ (call (Value.ref 26) [Value.bytes _ _]) _ _ _); k_dflt (refine' claim_use (escape_octs _ _ _ (by assumption) (by first | assumption | omega)) ?k1 ?k2 ?k3 ?k4 ?k5 ?k6 ?k7 ?k8 ?_; (case k1 => k_asm); (case k2 => k_asm); (case k3 => k_asm); (case k4 => k_asm); (case k5 => k_asm); (case k6 => first | exact rfl | assumption); (case k7 => first | ktr_room | k_room); (case k8 => first | ktr_units | k_units)); intro t9 h9 tk9 F9 N9; (try dsimp only); (try k_fold)))
local macro_rules | `(tactic| walk_at "call ref") => `(tactic| (k_here; (with_reducible show wpAny _ _ (call (Value.ref 47) [Value.ref _, Value.str _ _]) _ _ _); k_dflt (refine' claimP_use (lay_turn _ _ _ _ [_] _ _ _ (by assumption) (by assumption) (by simp) (by assumption) (by assumption)) ?k1 ?k2 ?k3 ?k4 (fun _ hp => hp) ?k5 ?k6 ?k7 ?k8 ?_; (case k1 => k_asm); (case k2 => k_asm); (case k3 => k_asm); (case k4 => k_asm); (case k5 => k_asm); (case k6 => first | exact rfl | assumption); (case k7 => first | ktr_room | k_room); (case k8 => first | ktr_units | k_units)); intro v9 h9 tk9 nw9 P9 F9 N9; obtain ⟨e9, nw8, e8, R9, o9⟩ := P9; subst e9; subst e8; (try dsimp only); (try k_fold)))
local macro_rules | `(tactic| walk_at "exec For Name Subscript cons nil") => `(tactic| (k_here; (rename Fr _ _ _ _ => lF'); (with_unfolding_all refine' stop_For lF' ?k1 ?k2 ?_; (case k1 => exact rfl); (case k2 => exact rfl); k_whole)))
local macro_rules | `(tactic| walk_at "exec For Tuple Name cons nil") => `(tactic| (k_here; (rename Fr _ _ _ _ => lF'); (with_unfolding_all refine' stop_ForT lF' ?_; k_whole)))
local macro_rules | `(tactic| walk_at "getMethod ref") => `(tactic| (k_here; k_dflt (refine RowIs.gm (by assumption) (fun _ hp => List.mem_cons_of_mem _ hp) (by assumption) ?_)))
local macro_rules | `(tactic| walk_at "call builtin:list.append") => `(tactic| (k_here; (with_reducible show wpAny _ _ (call (Value.builtin _) [Value.ref _, Value.ref _]) _ _ _); k_dflt (refine' row_append (x := [_]) ?k1 ?k2 ?k3 ?k4 ?k5 ?k6 ?_; (case k1 => k_asm); (case k2 => k_asm); (case k3 => assumption); (case k4 => assumption); (case k5 => exact ne_allLt (by assumption)); (case k6 => assumption)); intro h' nw7 R7 o7 F' N'))
def markJ (news : List (Addr × Obj)) (i : Nat) (ys : List Value) (nw : List (Addr × Obj)) (_ : Nat) : Prop := nw = news ∧ ys.length ≤ i ∧ All2 (fun c y => ∃ t, y = Value.str (tx [c]) t) ((List.range i).filter (fun c => decide (c ≠ 92) && special c)) ys
theorem mark_yes {news : List (Addr × Obj)} {i tk : Nat} {ys : List Value} {t : Tok} (h1 : ys.length ≤ i) (h2 : All2 (fun c y => ∃ t, y = Value.str (tx [c]) t) ((List.range i).filter (fun c => decide (c ≠ 92) && special c)) ys) (hs : special (0 + (i : Int)).toNat = true) (hn : i ≠ 92) :
    markJ news (i + 1) (ys ++ [Value.str ⟨#[(0 + (i : Int)).toNat]⟩ t]) news tk := by
  have e : (0 + (i : Int)).toNat = i := by omega
  rw [e] at hs ⊢
  refine ⟨rfl, by simp; omega, ?_⟩
  rw [List.range_succ, List.filter_append]
  have : List.filter (fun c => decide (c ≠ 92) && special c) [i] = [i] := by simp [hs, hn]
  rw [this]
  exact h2.snoc ⟨t, rfl⟩
theorem mark_no {news : List (Addr × Obj)} {i tk : Nat} {ys : List Value} (h1 : ys.length ≤ i) (h2 : All2 (fun c y => ∃ t, y = Value.str (tx [c]) t) ((List.range i).filter (fun c => decide (c ≠ 92) && special c)) ys) (hs : special i = false ∨ i = 92) :
    markJ news (i + 1) ys news tk := by
  refine ⟨rfl, by omega, ?_⟩
  rw [List.range_succ, List.filter_append]
  have : List.filter (fun c => decide (c ≠ 92) && special c) [i] = [] := by
    rcases hs with hs | hs
    · simp [hs]
    · simp [hs]
  rw [this, List.append_nil]
  exact h2
theorem sp_nat {i : Nat} (h : special (0 + (i : Int)).toNat = false) : special i = false := by
  have e : (0 + (i : Int)).toNat = i := by omega
  rw [e] at h; exact h
theorem mark_item {ys : List Value} (h : All2 (fun c y => ∃ t, y = Value.str (tx [c]) t) marksL ys) (k : Int) : ∃ t, ys[((k.fdiv 3).fmod 23).toNat]? = some (.str (tx [markOf k]) t) := by
  have hl : ys.length = 23 := by rw [h.len, marks_len]
  have e : (k.fdiv 3).fmod 23 = k / 3 % 23 := by rw [fm _ _ (by decide), fd _ _ (by decide)]
  rw [e]
  have hi : (k / 3 % 23).toNat < ys.length := by omega
  rw [List.getElem?_eq_getElem hi]
  obtain ⟨c, hc, t, et⟩ := all2_at h (List.getElem?_eq_getElem hi)
  refine ⟨t, ?_⟩
  rw [et]
  unfold markOf
  rw [List.getD_eq_getElem?_getD, hc]; rfl
theorem fm_lo (k : Int) : 0 ≤ (k.fdiv 3).fmod 23 := by rw [fm _ _ (by decide)]; omega
theorem fm_hi (k : Int) : (k.fdiv 3).fmod 23 < 2 ^ 63 := by rw [fm _ _ (by decide)]; omega
theorem len_marks {prog : Program} {w : World} {A : Around} {E : Value → Shared → Prop} {s : Shared} {l : Addr} {ys : List Value} {Q : Value → Shared → Prop} (hl : s.heap.IsList l ys.toArray) (e : ys.length = 23) (h : ∀ t tk, Q (.int 23 t) { s with toks := tk }) : wpAny (model prog w) A (call (.builtin "len") [.ref l]) Q E s := by
  refine PyProof.Rows.len_list hl (by rw [List.size_toArray, e]; decide) ?_
  rw [List.size_toArray, e]; exact h _ _
local macro_rules | `(tactic| walk_at "call builtin:len") => `(tactic| (k_here; refine len_marks (News.isList (by assumption) (by assumption)) (by assumption) ?_; intro _ _))
local macro_rules | `(tactic| walk_at "subscriptTail Name BinOp ref int") => `(tactic| (k_here; k_dflt (refine item_listL (News.isList (by assumption) (by assumption)) (by assumption) (by assumption) (by assumption) ?_)))
theorem step0 {r : RowV} {k : Int} (h : k.fmod 3 = 0) : (0, [markOf k]) :: r = stepV r k := by
  rw [fm _ _ (by decide)] at h; unfold stepV; rw [if_pos h]
theorem step1 {r : RowV} {k : Int} (h : ¬ k.fmod 3 = 0) : layV r [signOf k] = stepV r k := by
  rw [fm _ _ (by decide)] at h; unfold stepV; rw [if_neg h]
theorem part0 {k : Int} {x : List Nat} {t : Tok} (h : k = 0) : ∃ t', Value.str (tx x) t = .str (tx (partOf (k, x))) t' := by
  refine ⟨t, ?_⟩; unfold partOf; rw [if_pos h]
theorem part1 {k : Int} {x : List Nat} {t : Tok} (h : ¬ k = 0) : ∃ t', Value.str (tx (esc x)) t = .str (tx (partOf (k, x))) t' := by
  refine ⟨t, ?_⟩; unfold partOf; rw [if_neg h]
theorem sum_rev (r : RowV) : sumV r.reverse = sumV r := by
  induction r with
  | nil => rfl
  | cons p r ih => rw [List.reverse_cons, sum_cons, ← ih]; simp [sumV]; omega
theorem join_row {prog : Program} {w : World} {A : Around} {E : Value → Shared → Prop} {s : Shared} {r : RowV} {D : Addr} {ys : List Value} {t : Tok} {Q : Value → Shared → Prop} (hl : s.heap.IsList D ys.toArray) (hy : All2 (fun p y => ∃ t, y = Value.str (tx (partOf p)) t) r.reverse ys) (hn : sumV r ≤ 100000)
    (h : ∀ t' k, Q (.str (tx (writV r)) t') { s with toks := k }) : wpAny (model prog w) A (call (.builtin "str.join") [.str (PySem.Str.ofString "") t, .ref D]) Q E s := by
  refine join_rule (ls := r.reverse.map partOf) hl hy.strs ?_ h
  have := parts_sum r.reverse
  rw [sum_rev] at this
  omega
local macro_rules | `(tactic| walk_at "call builtin:str.join") => `(tactic| (k_here; refine join_row (News.isList (by assumption) (.head _)) (by assumption) (by omega) ?_; intro _ _))
local macro_rules | `(tactic| walk_at "call ref") => `(tactic| (k_here; (with_reducible show wpAny _ _ (call (Value.ref 54) [Value.str _ _]) _ _ _); k_dflt (refine' claimP_use (read_call _ _ _ _ (.inl ⟨_, rfl⟩) (by assumption) (by assumption)) ?k1 ?k2 ?k3 ?k4 (fun _ hp => hp) ?k5 ?k6 ?k7 ?k8 ?_; (case k1 => k_asm); (case k2 => k_asm); (case k3 => k_asm); (case k4 => k_asm); (case k5 => k_asm); (case k6 => first | exact rfl | assumption); (case k7 => first | ktr_room | k_room); (case k8 => first | ktr_units | k_units)); intro v9 h9 tk9 nw9 P9 F9 N9; obtain ⟨D9, e9, R9⟩ := P9; subst e9; (try dsimp only); (try k_fold)))
local macro_rules | `(tactic| walk_at "call builtin:str.join") => `(tactic| (k_here; refine join_ones (News.isList (by assumption) (.head _)) (by assumption) (by first | assumption | (simp; omega) | omega) ?_; intro _ _))
local macro_rules | `(tactic| walk_at "compareOp NotEq ref ref") => `(tactic| (k_here; refine stop_any ?_))
local macro_rules | `(tactic| walk_at "compareOp Eq ref ref") => `(tactic| (k_here; refine stop_any ?_))
theorem mod_eq (c : Nat) : (c : Int).fmod 256 = Int.ofNat (c % 256) := by
  rw [Int.fmod_eq_emod_of_nonneg _ (by decide)]; rfl
theorem sign_mod {c : Nat} {t : Tok} : ∃ t', Value.str ⟨#[((c : Int).fmod 256).toNat]⟩ t = .str (tx [c % 256]) t' := by
  refine ⟨t, ?_⟩
  rw [mod_eq]; rfl
theorem low_end {h₀ h' : Heap} {L l Dz : Addr} {m : Str → Option Value} {oz : Obj} {base : List (Addr × Obj)} {k : Int} {x : List Nat} {u t : Tok} {s₁ : Shared} {tk : Nat} (F : Fr h₀ L h' m) (N : News h₀ L h' ((l, W.listOf #[.int k u, .str (tx x) t] 0) :: (Dz, oz) :: base)) (hne : ∀ p ∈ base, p.1 ≠ l) :
    LowEnd h₀ L m s₁ base k x (.ref l) { s₁ with heap := h', toks := tk } := ⟨h', tk, l, u, t, rfl, rfl, F, News.sub N sub_second, hne⟩
theorem low_mem {r : RowV} {k : Int} {x : List Nat} (h : (k, x) ∈ r.map lowP) : ∀ c ∈ x, c < 256 := by
  obtain ⟨p, _, e⟩ := List.mem_map.mp h
  have : x = (lowP p).2 := by rw [e]
  rw [this]; exact low_small
local macro_rules | `(tactic| walk_at "call type:bytes") => `(tactic| (k_here; refine bytes_rule (by assumption) (by assumption) rfl (News.isList (by assumption) (.head _)) (All2.ints (by assumption)) (by assumption) (by omega) ?_; intro _ _ _ _ _))
theorem octs_sz (l : List Nat) : (octs l).size = l.length := by simp [octs]
theorem take_sum : ∀ (q : RowV) (i : Nat), sumV (q.take i) ≤ sumV q
  | [], i => by simp
  | p :: q, 0 => by simp [sumV]
  | p :: q, i + 1 => by rw [List.take_succ_cons, sum_cons, sum_cons]; exact Nat.add_le_add_left (take_sum q i) _
theorem flat_len : ∀ (q : RowV), ((q.map partOf).flatten).length ≤ 2 * sumV q
  | [] => by simp [sumV]
  | p :: q => by
    have h1 := part_len p
    have h2 := flat_len q
    rw [List.map_cons, List.flatten_cons, List.length_append, sum_cons]; omega
theorem pre_len (r : RowV) (i : Nat) : (((r.reverse.take i).map partOf).flatten).length ≤ 2 * sumV r := by
  have h1 := flat_len (r.reverse.take i)
  have h2 := take_sum r.reverse i
  rw [sum_rev] at h2
  omega
theorem oct_end2 {h₀ h' : Heap} {L I : Addr} {oI : Obj} {r : RowV} {nw : List (Addr × Obj)} {m₀ : Str → Option Value} {a b c d a' b' c' c'' : Option Value} {i : Nat} {k : Int} {x y : List Nat} {t : Tok} {s₁ : Shared} {tk : Nat}
    (F : Fr h₀ L h' (fun y' => if y' = Str.ofString "octets" then some (.bytes (octs ((r.reverse.take i).map partOf).flatten ++ octs y) t) else if y' = Str.ofString "part" then c' else if y' = Str.ofString "part" then c'' else if y' = Str.ofString "signs" then b' else if y' = Str.ofString "kind" then a' else (fun y => if y = Str.ofString "kind" then a else if y = Str.ofString "signs" then b else if y = Str.ofString "part" then c else if y = Str.ofString "octets" then d else m₀ y) y'))
    (N : News h₀ L h' ((I, oI) :: nw)) (off : ∀ p ∈ nw, p.1 ≠ I) (hr : r.reverse[i]? = some (k, x)) (e : y = partOf (k, x)) :
    NPost h₀ L (InvOct r m₀ nw (i + 1)) I oI s₁ .next { s₁ with heap := h', toks := tk } := by
  have : ∀ (p q r' z : Option Value) (y' : Str), (if y' = Str.ofString "octets" then p else if y' = Str.ofString "part" then q else if y' = Str.ofString "part" then r' else z) = (if y' = Str.ofString "octets" then p else if y' = Str.ofString "part" then q else z) := by
    intro p q r' z y'
    by_cases h1 : y' = Str.ofString "part" <;> simp [h1]
  simp only [this] at F
  exact oct_end F N off hr e
theorem ok_kind : ∀ {r : RowV}, OkV r → ∀ {k : Int} {x : List Nat}, (k, x) ∈ r → k = 0 ∨ k = 1
  | [], _, _, _, h => nomatch h
  | (k', x') :: r, ⟨h, h'⟩, k, x, hm => by
    rcases List.mem_cons.mp hm with e | hm
    · cases e
      rcases h' with h' | h'
      · exact .inl h'.1
      · exact .inr h'.1
    · exact ok_kind h hm
theorem partE {k : Int} {x : List Nat} (h : k = 1) : esc x = partOf (k, x) := by subst h; rfl
theorem partN {k : Int} {x : List Nat} (h : ¬ k = 1) (h' : k = 0 ∨ k = 1) : x = partOf (k, x) := by
  rcases h' with rfl | h'
  · rfl
  · exact absurd h' h
theorem News.tl2 {h₀ h : Heap} {L : Addr} {q : Addr × Obj} {news : List (Addr × Obj)} (N : News h₀ L h (q :: news)) : News h₀ L h news := fun p hp => N p (List.mem_cons_of_mem _ hp)
theorem oct_signs {l : List Nat} (hs : ∀ c ∈ l, c < 256) {ys : List Value} (h : All2 (fun (c : UInt8) y => ∃ t, y = Value.str (tx [c.toNat]) t) (octs l).toList ys) : All2 (fun c y => ∃ t, y = Value.str (tx [c]) t) l ys := by
  have e : (octs l).toList = l.map Nat.toUInt8 := by simp [octs]
  rw [e] at h
  clear e
  induction l generalizing ys with
  | nil => cases h; exact .nil
  | cons c l ih =>
    cases h with
    | cons h1 h2 =>
      have hc : c.toUInt8.toNat = c := by
        have := hs c (.head _)
        show c % 256 = c
        exact Nat.mod_eq_of_lt this
      rw [hc] at h1
      exact .cons h1 (ih (fun d hd => hs d (.tail _ hd)) h2)
local macro_rules | `(tactic| walk_at "inplaceOp Add bytes bytes") => `(tactic| (k_here; refine iadd_bytes (by omega) ?_; intro _ _))
local macro_rules | `(tactic| walk_at "call ref") => `(tactic| (k_here; (with_reducible show wpAny _ _ (call (Value.ref 54) [Value.ref _]) _ _ _); k_dflt (refine' claimP_use (read_call _ _ _ _ (.inr ⟨_, _, _, rfl, .head _, by assumption⟩) (by assumption) (by assumption)) ?k1 ?k2 ?k3 ?k4 (fun _ hp => hp) ?k5 ?k6 ?k7 ?k8 ?_; (case k1 => k_asm); (case k2 => k_asm); (case k3 => k_asm); (case k4 => k_asm); (case k5 => k_asm); (case k6 => first | exact rfl | assumption); (case k7 => first | ktr_room | k_room); (case k8 => first | ktr_units | k_units)); intro v9 h9 tk9 nw9 P9 F9 N9; obtain ⟨D9, e9, R9⟩ := P9; subst e9; (try dsimp only); (try k_fold)))
theorem law02 : PySem.Challenge.rw_dn0142_02.Holds := hd (by
  w_strict (
    k_go0
    rename List Int => ns
    have hns : ns.length ≤ 63 := by omega
    k_steps
    refine stop_open ?_
    refine P.compM_range (n := 128) (markJ _) rfl (by assumption) (by decide) (by decide) (by decide) (by assumption) (by assumption) (fun i ys nw t h => h.2.1) (fun i ys nw t t' h _ => h) ⟨rfl, Nat.le_refl _, .nil⟩ ?turn1 (fun _ _ => rfl) ?fin1
    case turn1 =>
      rintro s' ⟨hp, rfl⟩
      refine gturn_name (by with_unfolding_all rfl) (by with_unfolding_all rfl) ?_
      rintro i v ys news₁ I oI C oC D m₂ h t₀ tk E' hi ⟨t, rfl⟩ ⟨rfl, hj1, hj2⟩ hle hC hx F N off ne
      refine tests_one ?_
      k_steps
      · exact GEnd.mk' (by assumption) (by assumption) (fun p hp => hp) off hC (mark_yes hj1 hj2 (by assumption) (by omega))
      · exact GEnd.mk' (by assumption) (by assumption) (fun p hp => hp) off hC (mark_no hj1 hj2 (.inl (sp_nat (by assumption))))
      · exact GEnd.mk' (by assumption) (by assumption) (fun p hp => hp) off hC (mark_no hj1 hj2 (.inr (by omega)))
    case fin1 =>
      intro D h tk ys news' hJ F N off
      obtain ⟨e, hj1, hj2⟩ := hJ
      subst e
      have hy23 : ys.length = 23 := by rw [hj2.len]; exact marks_len
      k_steps
      refine stop_open ?_
      refine iter_build (by assumption) rfl (by assumption) (by assumption) (by assumption) (by assumption) (by assumption) ?turn2 ?fin2
      case turn2 =>
        intro i k u' v0 nw h tk I oI hk R off F N
        have hml := List.mem_cons_of_mem (I, oI) (R.rest _ (.tail _ (.head _)))
        obtain ⟨t7, hit⟩ := mark_item hj2 k
        have hf0 := fm_lo k
        have hf1 := fm_hi k
        have hrl := row_len (List.take i (List.take 63 ns))
        have hrt : (List.take i (List.take 63 ns)).length ≤ 63 := by simp; omega
        have hrl1 : (rowV (List.take i (List.take 63 ns))).length ≤ 100000 := by omega
        have hrl2 : sumV (rowV (List.take i (List.take 63 ns))) ≤ 100000 := by omega
        k_steps
        · exact build_end (by assumption) (by assumption) (by assumption) (by assumption) hk (step0 (by assumption))
        · exact build_end (by assumption) (by assumption) (by assumption) (by assumption) hk (step1 (by assumption))
      case fin2 =>
        intro v0 nw h tk R F N
        have hrt : (List.take 63 ns).length ≤ 63 := by simp; omega
        have hrl := row_len (List.take 63 ns)
        have hok := row_ok (List.take 63 ns)
        k_steps
        refine stop_open ?_
        refine comp_row partOf (by with_unfolding_all rfl) (by with_unfolding_all rfl) (by decide) (by with_unfolding_all rfl) rfl (by assumption) (by assumption) R (by rw [sizeLine_eq]; omega) ?turn3 ?fin3
        case turn3 =>
          intro k x u v I oI C oC Dd m₂ ys' s₂ h tk E' hkx hC hma hmb F N off ne
          have hxl := sum_mem hkx
          dsimp only at hxl
          have hxl' : x.length ≤ 100000 := by omega
          k_steps
          · exact CEnd.mk' (by assumption) (by assumption) (fun p hp => hp) (part0 (by assumption))
          · exact CEnd.mk' (by assumption) (by assumption) (fun p hp => hp) (part1 (by assumption))
        case fin3 =>
          intro ps Dp h tk hps F N off3
          have hpsum := parts_sum (rowV (List.take 63 ns)).reverse
          have hwl := writ_len (rowV (List.take 63 ns))
          have hwl' : (writV (rowV (List.take 63 ns))).length ≤ 10000 := by omega
          have hrd := read_row hok
          k_steps
          refine stop_open ?_
          refine ne_rows (by assumption) (by assumption) R (fun _ hp => hp) (fun p hp => RowIs.rest (by assumption) p (.tail _ hp)) (by first | k_units | ktr_units) ?_
          k_steps
          refine stop_open ?_
          refine comp_low (fun x => x.map (· % 256)) (by with_unfolding_all rfl) (by with_unfolding_all rfl) (by decide) (by with_unfolding_all rfl) rfl (by assumption) (by assumption) _ R (fun p hp => RowIs.rest (by assumption) p (.tail _ hp)) (by rw [sizeLine_eq]; omega) ?turn4 ?fin4
          case turn4 =>
            intro k x u v I oI C oC Dd m₂ ys' nw' s₂ h tk E' hkx hC hma hmb F N off ne
            have hxl := sum_mem hkx
            dsimp only at hxl
            have hxl' : x.length ≤ 100000 := by omega
            k_steps
            refine stop_open ?_
            refine comp_tx (fun c y => ∃ t, y = .str (tx [c % 256]) t) rfl (by assumption) (by assumption) (by rw [sizeLine_eq]; omega) ?turn5 ?fin5
            case turn5 =>
              intro c v I oI C oC D m₂ ys h tk E' hc hv hC hx F N off ne
              obtain ⟨u, rfl⟩ := hv
              k_steps
              exact CEnd.mk' (by assumption) (by assumption) (fun p hp => hp) sign_mod
            case fin5 =>
              intro zs Dz h tk hz F N off5
              k_steps
              rename _ ∧ _ ∧ _ ∧ _ ∧ AllLt _ _ => l1
              exact low_end (by assumption) (by assumption) (ne_allLt l1.2)
          case fin4 =>
            intro Dl h tk nwl Rl₀ F N
            have Rl : RowIs Dl ((rowV (List.take 63 ns)).map lowP) _ nwl := Rl₀
            clear Rl₀
            have hls : sumV ((rowV (List.take 63 ns)).map lowP) ≤ 200 := by rw [low_sum]; omega
            have hwl2 := writ_len ((rowV (List.take 63 ns)).map lowP)
            have hwl2' : (writV ((rowV (List.take 63 ns)).map lowP)).length ≤ 10000 := by omega
            have hrd2 := read_row hok.low
            have hsm2 := writ_small (rowV (List.take 63 ns))
            k_steps
            refine stop_open ?_
            refine iter_row rfl (by assumption) (by assumption) Rl (oct_start rfl) rfl rfl rfl ?turn6 ?fin6
            case turn6 =>
              intro i k x u v v1 v2 v3 t s₂ h tk I oI hkx off F N
              have hkm := List.mem_reverse.mp (List.mem_of_getElem? hkx)
              have hxl := sum_mem hkm
              dsimp only at hxl
              have hxl' : x.length ≤ 100000 := by omega
              have hxs := low_mem hkm
              k_steps
              refine stop_open ?_
              refine comp_tx (fun c y => ∃ t, y = .int (Int.ofNat c) t) rfl (by assumption) (by assumption) (by rw [sizeLine_eq]; omega) ?turn7 ?fin7
              case turn7 =>
                intro c v I oI C oC D m₂ ys h tk E' hc hv hC hx F N off ne
                obtain ⟨u, rfl⟩ := hv
                k_steps
                exact CEnd.mk' (by assumption) (by assumption) (fun p hp => hp) ⟨_, rfl⟩
              case fin7 =>
                intro zs Dz h tk hz F N off7
                have hoA := pre_len ((rowV (List.take 63 ns)).map lowP) i
                have hoB := esc_len x
                have hoA' : (octs ((((rowV (List.take 63 ns)).map lowP).reverse.take i).map partOf).flatten).size ≤ 1000 := by rw [octs_sz]; omega
                have hoB' : (octs (esc x)).size ≤ 1000 := by rw [octs_sz]; omega
                have hoC' : (octs x).size ≤ 1000 := by rw [octs_sz]; omega
                have hkk := ok_kind hok.low hkm
                k_steps
                · exact oct_end2 (by assumption) (Mine.News.tl2 (by assumption)) off hkx (partE (by assumption))
                · exact oct_end (by assumption) (Mine.News.tl2 (by assumption)) off hkx (partN (by assumption) hkk)
            case fin6 =>
              intro v1 v2 v3 t h tk F N
              have hob : (octs (writV ((rowV (List.take 63 ns)).map lowP))).size ≤ sizeLine := by rw [octs_sz, sizeLine_eq]; omega
              k_steps
              refine stop_open ?_
              refine comp_bytes (R := fun c y => ∃ t, y = .str (tx [c.toNat]) t) rfl (by assumption) (by assumption) hob ?turn8 ?fin8
              case turn8 =>
                intro c v I oI C oC D m₂ ys h tk E' hc hv hC hx F N off ne
                obtain ⟨u, rfl⟩ := hv
                have hcb : c.toNat < 256 := c.toNat_lt
                k_steps
                exact CEnd.mk' (by assumption) (by assumption) (fun p hp => hp) ⟨_, rfl⟩
              case fin8 =>
                intro zs Dz h tk hz F N off8
                have hz' := oct_signs hsm2 hz
                k_steps
                refine stop_open ?_
                refine eq_rows (by assumption) (by assumption) Rl (fun _ hp => hp) (fun p hp => RowIs.rest (by assumption) p (.tail _ hp)) (by first | k_units | ktr_units) ?_
                k_steps))
end Mine

end
theorem PySem.Challenge.cw_dn0142_02_holds : PySem.Challenge.rw_dn0142_02.Holds :=
  Mine.law02

