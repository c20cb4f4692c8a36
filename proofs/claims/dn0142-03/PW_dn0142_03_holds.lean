import PyProof.Rows.All
import Wide.All
import OpenK.AllK
import Wide.FinOn
import PySem.Challenge.RW_dn0142_03
open PySem PySem.W PyProof.Rows
set_option Elab.async false
set_option maxRecDepth 100000
set_option maxHeartbeats 8000000
namespace Mine
open_top hd for PySem.Challenge.rw_dn0142_03
end Mine
section
open PySem PySem.W PyProof.Rows PySem.Builtin PySem.Builtin.Str
namespace Mine
def special (c : Nat) : Bool :=
  (decide (9 ≤ c) && decide (c ≤ 13)) || (decide (40 ≤ c) && decide (c ≤ 43)) || (decide (91 ≤ c) && decide (c ≤ 94)) || (decide (123 ≤ c) && decide (c ≤ 126)) || c == 32 || c == 35 || c == 36 || c == 38 || c == 45 || c == 46 || c == 63

def escC (c : Nat) : List Nat := if special c then [92, c] else [c]
def esc (l : List Nat) : List Nat := l.flatMap escC
theorem esc_append (a b : List Nat) : esc (a ++ b) = esc a ++ esc b := List.flatMap_append
theorem esc_cons (c : Nat) (l : List Nat) : esc (c :: l) = escC c ++ esc l := List.flatMap_cons
theorem escC_len (c : Nat) : (escC c).length ≤ 2 := by unfold escC; split <;> simp
theorem esc_len (l : List Nat) : (esc l).length ≤ 2 * l.length := by
  induction l with
  | nil => simp [esc]
  | cons c l ih => rw [esc_cons, List.length_append, List.length_cons]; have := escC_len c; omega

abbrev Grow (h h' : Heap) : Prop := ∀ b o, h.get? b = some o → h'.get? b = some o

section
variable {prog : Program} {w : World} {A : Around} {E : Value → Shared → Prop} {s : Shared}

theorem MapOf.grow {h h' : Heap} {d : Addr} {f : Int → Option Value} (hm : h.MapOf (intKind prog w) d f) (g : Grow h h') : h'.MapOf (intKind prog w) d f :=
  let ⟨o, es, ep, ho, r⟩ := hm; ⟨o, es, ep, g _ _ ho, r⟩

def TabFor (f : Int → Option Value) : Prop := ∀ c : Nat, (special c = false ∧ f c = none) ∨ (special c = true ∧ ∃ u, f c = some (.str ⟨#[92, c]⟩ u))

theorem lookup_rule {d : Addr} {c : Nat} {f : Int → Option Value} {Q : Mapped → Shared → Prop} (hA : A.handled = none)
   (hd : (d == sysModules) = false) (hm : s.heap.MapOf (intKind prog w) d f) (hf : TabFor f)
   (h : ∀ h' tk', Grow s.heap h' → Q (if special c then .text ⟨#[92, c]⟩ else .keep) { s with heap := h', toks := tk' }) :
   wpAny (model prog w) A (tableLookup (.ref d) c) Q E s := by
  unfold tableLookup
  refine wpAny_bind (wpAny_attempt (wpAny_bind (wpAny_mkInt ?_)))
  rcases hf c with ⟨h1, h2⟩ | ⟨h1, u, h2⟩
  · refine wpAny_getItem_missing_of (knd := intKind prog w) (k := (c : Int)) (by simp [intKind, Value.isInt]) hd hA hm h2 fun h' e ne => ?_
    dsimp only
    obtain ⟨ob, t, ho, hc, _⟩ := ne.there
    refine wpAny_bind (wpAny_isInstance (T := "KeyError") (b := true) ⟨ob, ho, hc⟩ (by rw [isSubtype_type]; kernel_rfl) ?_)
    simp only [if_true]
    refine wpAny_bind (wpAny_rule (wpAny_pure ?_))
    have := h h' (s.toks + 1 + 1) ne.keeps
    rw [h1] at this
    exact this
  · refine wpAny_getItem_of (knd := intKind prog w) (k := (c : Int)) (by simp [intKind, Value.isInt]) hm h2 ?_
    dsimp only
    refine wpAny_bind (wpAny_of_eq (a := none) rfl ?_)
    refine wpAny_bind (wpAny_of_eq (a := some ⟨#[92, c]⟩) rfl (wpAny_pure ?_))
    have := h s.heap (s.toks + 1 + 1) (fun _ _ e => e)
    rw [h1] at this
    exact this

/-- the state of translate's loop: what is done so far, and the rest -/
structure TrInv (s₀ : Shared) (x : List Nat) (rest : List Nat) (b : List PySem.Str × Nat × Bool × List (Nat × Option Nat) × Bool) (s' : Shared) : Prop where
  st : ∃ h' tk', s' = { s₀ with heap := h', toks := tk' } ∧ Grow s₀.heap h'
  cut : ∃ pre, x = pre ++ rest ∧ b.1.reverse.flatMap (fun p => p.cps.toList) = esc pre ∧ b.2.1 = (esc pre).length
  known : ∀ p ∈ b.2.2.2.1, special p.1 = false ∧ p.2 = some p.1
  drop : b.2.2.2.2 = false

theorem lookup_known {known : List (Nat × Option Nat)} (hk : ∀ p ∈ known, special p.1 = false ∧ p.2 = some p.1) {c : Nat} {a : Option Nat} (e : List.lookup c known = some a) : special c = false ∧ a = some c := by
  induction known with
  | nil => cases e
  | cons p l ih =>
    rw [List.lookup_cons] at e
    by_cases hc : (c == p.1) = true
    · rw [hc] at e
      have e' : p.2 = a := Option.some.inj e
      have hc' : c = p.1 := eq_of_beq hc
      rw [← e', hc']
      exact hk p (List.mem_cons_self ..)
    · have hc' : (c == p.1) = false := by simpa using hc
      rw [hc'] at e
      exact ih (fun q hq => hk q (List.mem_cons_of_mem _ hq)) e

theorem foldl_cps (l : List PySem.Str) : ∀ acc : Array Nat, (l.foldl (fun acc p => acc ++ p.cps) acc).toList = acc.toList ++ l.flatMap (fun p => p.cps.toList) := by
  induction l with
  | nil => intro acc; simp
  | cons p l ih => intro acc; rw [List.foldl_cons, ih, List.flatMap_cons]; simp

theorem translate_rule {d : Addr} {x : PySem.Str} {t : Tok} {f : Int → Option Value} {Q : Value → Shared → Prop} (hA : A.handled = none)
   (hd : (d == sysModules) = false) (hm : s.heap.MapOf (intKind prog w) d f) (hf : TabFor f)
   (hlen : 2 * x.cps.size ≤ sizeLine)
   (h : ∀ h' tk' t', Grow s.heap h' → Q (.str ⟨(esc x.cps.toList).toArray⟩ t') { s with heap := h', toks := tk' }) :
   wpAny (model prog w) A (call (.builtin "str.translate") [.str x t, .ref d]) Q E s := by
  refine wpAny_call_entry PySem.F.slot_str_translate (PySem.typeIs_str _ _ _) PySem.F.entry_str_translate ?_ (PySem.F.args_str_translate_2 _ _)
  unfold Builtin.«str.translate»
  refine wpAny_bind (wpAny_of_eq (a := (.str x t, x, .ref d)) rfl ?_)
  dsimp only
  by_cases h0 : x.length = 0
  · rw [if_pos (by simp [h0])]
    refine wpAny_bind (wpAny_rule (wpAny_bind (wpAny_of_eq (a := .str x t) rfl (wpAny_pure ⟨_, rfl, ?_⟩))))
    have hx : x = ⟨(esc x.cps.toList).toArray⟩ := by
      obtain ⟨⟨l⟩⟩ := x
      have : l = [] := List.length_eq_zero_iff.mp h0
      subst this; rfl
    have := h s.heap s.toks t (fun _ _ e => e)
    rw [← hx] at this
    exact this
  · rw [if_neg (by simp [h0])]
    refine wpAny_bind (MeetsSeq2.wpAny_forIn_array _ (TrInv s x.cps.toList) _ ?turn ?fin _ _ ?start)
    case start => exact ⟨⟨s.heap, s.toks, rfl, fun _ _ e => e⟩, ⟨[], rfl, rfl, rfl⟩, (fun p hp => nomatch hp), rfl⟩
    case turn =>
      rintro c rest ⟨pieces, total, fast, known, drop⟩ s' ⟨⟨h', tk', rfl, g⟩, ⟨pre, hx, hp, ht⟩, hk, hdr⟩
      dsimp only at hp ht hk hdr ⊢
      subst hdr
      have hl : (esc pre).length ≤ sizeLine := by
        have := esc_len pre
        have hx' : x.cps.size = pre.length + (rest.length + 1) := by rw [← Array.length_toList, hx]; simp
        omega
      rw [if_neg (by unfold tooLong; simp; omega)]
      have hm' := MapOf.grow hm g
      have slow : ∀ fast known, (∀ p ∈ known, special p.1 = false ∧ p.2 = some p.1) → ∀ h₂ tk₂, Grow s.heap h₂ → wpAny (model prog w) A.in1
          (do
            let __do_lift ← tableLookup (.ref d) c
            match __do_lift with
              | Mapped.keep => pure (ForInStep.yield ((⟨#[c]⟩ : PySem.Str) :: pieces, total + 1, fast, known, false))
              | Mapped.drop => pure (ForInStep.yield (pieces, total, fast, known, true))
              | Mapped.char d => pure (ForInStep.yield ((⟨#[d]⟩ : PySem.Str) :: pieces, total + 1, fast, known, false))
              | Mapped.text t => pure (ForInStep.yield (t :: pieces, total + t.length, fast, known, false)))
          (fun r s' => match r with
            | ForInStep.yield b' => TrInv s x.cps.toList rest b' s'
            | ForInStep.done b' => False) E { s with heap := h₂, toks := tk₂ } := by
        intro fast known hk h₂ tk₂ g₂
        refine wpAny_bind (lookup_rule (s := { s with heap := h₂, toks := tk₂ }) (by exact hA) hd (MapOf.grow hm g₂) hf fun h₃ tk₃ g₃ => ?_)
        have gg : Grow s.heap h₃ := fun b o e => g₃ b o (g₂ b o e)
        cases hs : special c
        · simp only [Bool.false_eq_true, if_false]
          refine wpAny_pure ⟨⟨h₃, tk₃, rfl, gg⟩, ⟨pre ++ [c], by simp [hx], ?_, ?_⟩, hk, rfl⟩
          · simp [hp, esc, escC, hs]
          · simp [ht, esc, escC, hs]
        · simp only [if_true]
          refine wpAny_pure ⟨⟨h₃, tk₃, rfl, gg⟩, ⟨pre ++ [c], by simp [hx], ?_, ?_⟩, hk, rfl⟩
          · simp [hp, esc, escC, hs]
          · simp [ht, esc, escC, hs, PySem.Str.length]
      cases fast with
      | false =>
        simp only [Bool.false_eq_true, if_false]
        exact wpAny_mono (slow false known hk h' tk' g) (fun r s' hr => by cases r with | yield b' => exact hr | done b' => exact hr.elim) (fun _ _ e => e)
      | true =>
        simp only [if_true, Bool.false_eq_true, if_false]
        cases hl : List.lookup c known with
        | some a =>
          obtain ⟨h1, rfl⟩ := lookup_known hk hl
          dsimp only
          refine wpAny_bind (wpAny_pure (wpAny_pure ⟨⟨h', tk', rfl, g⟩, ⟨pre ++ [c], by simp [hx], ?_, ?_⟩, hk, rfl⟩))
          · simp [hp, esc, escC, h1]
          · simp [ht, esc, escC, h1]
        | none =>
          dsimp only
          refine wpAny_bind (lookup_rule (s := { s with heap := h', toks := tk' }) (by exact hA) hd hm' hf fun h₃ tk₃ g₃ => ?_)
          have gg : Grow s.heap h₃ := fun b o e => g₃ b o (g b o e)
          cases hs : special c
          · simp only [Bool.false_eq_true, if_false]
            refine wpAny_bind (wpAny_pure (wpAny_pure ⟨⟨h₃, tk₃, rfl, gg⟩, ⟨pre ++ [c], by simp [hx], ?_, ?_⟩, ?_, rfl⟩))
            · simp [hp, esc, escC, hs]
            · simp [ht, esc, escC, hs]
            · intro p hp
              rcases List.mem_cons.mp hp with rfl | hp
              · exact ⟨hs, rfl⟩
              · exact hk p hp
          · simp only [if_true]
            refine wpAny_bind (wpAny_pure (wpAny_bind (wpAny_rule ?_)))
            exact wpAny_mono (slow false known hk h₃ tk₃ gg) (fun r s' hr => by cases r with | yield b' => exact hr | done b' => exact hr.elim) (fun _ _ e => e)
    case fin =>
      rintro ⟨pieces, total, fast, known, drop⟩ s' ⟨⟨h', tk', rfl, g⟩, ⟨pre, hx, hp, ht⟩, hk, hdr⟩
      dsimp only at hp ht hk hdr ⊢
      have hl : (esc pre).length ≤ sizeLine := by
        have := esc_len pre
        have hx' : x.cps.size = pre.length := by rw [← Array.length_toList, hx]; simp
        omega
      rw [if_neg (by unfold tooLong; simp; omega)]
      have e : ({ cps := List.foldl (fun acc p => acc ++ p.cps) #[] pieces.reverse } : PySem.Str) = ⟨(esc x.cps.toList).toArray⟩ := by
        congr 1
        apply Array.toList_inj.mp
        rw [foldl_cps, hx]
        simpa using hp
      rw [e]
      refine wpAny_bind (wpAny_mkStr (wpAny_pure ⟨_, rfl, h h' _ _ g⟩) ?_)
      show (esc x.cps.toList).toArray.size ≤ sizeLine
      rw [hx, List.append_nil, List.size_toArray]
      exact hl
end
end Mine

end
section
open PySem PySem.W PyProof.Rows PySem.Builtin PySem.Builtin.Str
namespace Mine
theorem new_eq {b : Array UInt8} {t u : Tok} : Builtin.«str.__new__» ⟨[.type "str", .bytes b t, .str (PySem.Str.ofString "latin1") u], []⟩ =
   (do
     let e ← mkStr (PySem.Str.ofString "latin1")
     rule "str.__new__.decode-bytes"
     let v ← call (.builtin "bytes.decode") [.bytes b t] [(PySem.Str.ofString "encoding", e)]
     ret v) := by kernel_rfl
theorem dec_eq {c : UInt8} {cs : List UInt8} {t u : Tok} : Builtin.«bytes.decode» ⟨[.bytes (c :: cs).toArray t], [(PySem.Str.ofString "encoding", .str (PySem.Str.ofString "latin1") u)]⟩ =
   (do
     let _ ← mkStr (PySem.Str.ofString "utf-8")
     let e ← mkStr (PySem.Str.ofString "latin1")
     let i ← mkStr (PySem.Str.ofString "bytes.decode")
     let v ← call (.builtin "_codecs.decode.text") [.bytes (c :: cs).toArray t, e, .none, i]
     ret v) := by kernel_rfl
theorem dec_nil {t u : Tok} : Builtin.«bytes.decode» ⟨[.bytes #[] t], [(PySem.Str.ofString "encoding", .str (PySem.Str.ofString "latin1") u)]⟩ =
   (do
     rule "bytes.decode.empty"
     retStr PySem.Str.empty) := by kernel_rfl
theorem road_latin1 {id : String} {b : Array UInt8} : _codecs.decodeRoad id b (PySem.Str.ofString "latin1") none [] = (_codecs.runDecoder id _codecs.latin1Decoder none true b 0 [] >>= fun r => mkStr ⟨r.1⟩) := by kernel_rfl
theorem enc_eq {x : PySem.Str} {t u : Tok} : Builtin.«str.encode» ⟨[.str x t, .str (PySem.Str.ofString "latin1") u], []⟩ =
   ((_codecs.encodeNarrow "str.encode" _codecs.latin1Codec none (.str x t) x >>= fun b => mkBytes b) >>= fun v => ret v) := by kernel_rfl

section
variable {M : Model} {A : Around} {E : Value → Shared → Prop} {s : Shared}
theorem runDecoder_latin1 {id : String} {b : Array UInt8} {Q : Array Nat × Nat → Shared → Prop} (hb : b.size ≤ sizeLine) (h : Q (b.map UInt8.toNat, b.size) s) :
    wpAny M A (_codecs.runDecoder id _codecs.latin1Decoder none true b 0 []) Q E s := by
  unfold _codecs.runDecoder
  dsimp only
  rw [KPc.range_list]
  refine wpAny_bind (wpAny_forIn_list _ (fun rest st s' => s = s' ∧ st.1 + rest.length = b.size ∧ st.2.1 = ((b.toList.take st.1).map UInt8.toNat).toArray) _ ?turn ?fin _ _ ?start)
  case start => exact ⟨rfl, by simp, by simp⟩
  case fin =>
    rintro ⟨p, out, st⟩ s' ⟨rfl, hp, ho⟩
    refine wpAny_pure ?_
    dsimp only at hp ho ⊢
    have hp' : p = b.size := by simpa using hp
    have e : out = b.map UInt8.toNat := by
      rw [ho, hp']
      apply Array.toList_inj.mp
      rw [List.take_of_length_le (by simp)]
      simp
    rw [e, hp']
    exact h
  case turn =>
    rintro k rest ⟨p, out, st⟩ s' ⟨rfl, hp, ho⟩
    dsimp only at hp ho ⊢
    rw [List.length_cons] at hp
    have hlt : p < b.size := by omega
    have hos : out.size = p := by rw [ho]; simp; omega
    rw [if_neg (by omega), if_neg (by omega)]
    refine wpAny_pure ⟨rfl, by dsimp only; omega, ?_⟩
    dsimp only
    rw [ho]
    apply Array.toList_inj.mp
    rw [List.take_add_one]
    simp [hlt, Array.getD]
theorem extract_latin1 {x : PySem.Str} (hx : ∀ c ∈ x.cps, c < 256) : Array.findIdx? _codecs.latin1Codec.bad (x.cps.extract 0) = none := by
  rw [Array.findIdx?_eq_none_iff]
  intro c hc
  have : c ∈ x.cps := by simpa using hc
  have := hx c this
  show decide (c ≥ 256) = false
  simp; omega
theorem foldl_toUInt8 (l : List Nat) : ∀ acc : Array UInt8, (l.foldl (fun acc y => acc ++ (_codecs.latin1Codec.bytesOf y).toArray) acc).toList = acc.toList ++ l.map Nat.toUInt8 := by
  induction l with
  | nil => intro acc; simp
  | cons c l ih => intro acc; rw [List.foldl_cons, ih]; simp [_codecs.latin1Codec]
theorem encode_latin1 {id : String} {x : PySem.Str} {v : Value} {Q : Array UInt8 → Shared → Prop} (hb : x.cps.size ≤ sizeLine) (hx : ∀ c ∈ x.cps, c < 256) (h : Q (x.cps.map Nat.toUInt8) s) :
    wpAny M A (_codecs.encodeNarrow id _codecs.latin1Codec none v x) Q E s := by
  unfold _codecs.encodeNarrow
  dsimp only
  rw [KPc.range_list]
  refine wpAny_bind (wpAny_forIn_list _ (fun rest st s' => s = s' ∧ ((st.1 = 0 ∧ st.2.1 = #[] ∧ rest.length = x.cps.size) ∨ (st.1 = x.cps.size ∧ st.2.1 = x.cps.map Nat.toUInt8))) _ ?turn ?fin _ _ ?start)
  case start => exact ⟨rfl, .inl ⟨rfl, rfl, by simp [PySem.Str.length]⟩⟩
  case fin =>
    rintro ⟨p, out, st⟩ s' ⟨rfl, hh⟩
    refine wpAny_pure ?_
    dsimp only at hh ⊢
    rcases hh with ⟨_, ho, hr⟩ | ⟨_, ho⟩
    · have : x.cps = #[] := by
        apply Array.eq_empty_of_size_eq_zero
        simpa using hr.symm
      rw [this] at h
      rw [ho]
      simpa using h
    · rw [ho]; exact h
  case turn =>
    rintro k rest ⟨p, out, st⟩ s' ⟨rfl, hh⟩
    dsimp only at hh ⊢
    rcases hh with ⟨hp, ho, hr⟩ | ⟨hp, ho⟩
    · subst hp; subst ho
      rw [List.length_cons] at hr
      have h0 : 0 < x.cps.size := by omega
      rw [if_neg (by simp)]
      rw [Array.getElem?_eq_getElem h0]
      dsimp only
      have h1 : _codecs.latin1Codec.bad x.cps[0] = false := by
        have := hx x.cps[0] (Array.getElem_mem h0)
        show decide (x.cps[0] ≥ 256) = false
        simp; omega
      rw [h1]
      simp only [Bool.not_false, if_true]
      refine wpAny_pure ⟨rfl, .inr ⟨?_, ?_⟩⟩
      · dsimp only
        rw [extract_latin1 hx]
        simp
      · dsimp only
        rw [extract_latin1 hx]
        apply Array.toList_inj.mp
        rw [← Array.foldl_toList, foldl_toUInt8]
        simp
    · subst hp; subst ho
      rw [if_neg (by simpa using hb)]
      rw [Array.getElem?_eq_none (Nat.le_refl _)]
      exact wpAny_pure (wpAny_pure h)
end

theorem typeCall_str_2 (a b : Value) : checkTypeCall "str" ⟨[a, b], []⟩ = pure () := by kernel_rfl
theorem newCall_str_2 (a b : Value) : checkBuiltinCall "str.__new__" ⟨[.type "str", a, b], []⟩ = pure () := by kernel_rfl
theorem args_object_init_3 (a b c : Value) : argsOk "object.__init__" ⟨[a, b, c], []⟩ := by unfold argsOk; kernel_rfl
theorem args_decode_kw (a b : Value) : argsOk "bytes.decode" ⟨[a], [(PySem.Str.ofString "encoding", b)]⟩ := by
  unfold argsOk; rw [signature?_of (id := "bytes.decode") (n := ['e', 'd', 'o', 'c', 'e', 'd']) (o := ['s', 'e', 't', 'y', 'b']) (by kernel_rfl) FB.owner_bytes]; kernel_rfl

theorem meets_text {b : Array UInt8} {t t1 t2 : Tok} {d : PySem.Str} :
    Meets (Builtin.«_codecs.decode.text» ⟨[.bytes b t, .str (PySem.Str.ofString "latin1") t1, .none, .str d t2], []⟩) (fun _ R s => b.size ≤ sizeLine ∧ R (.ok (.ret (.str ⟨b.map UInt8.toNat⟩ s.toks))) { s with toks := s.toks + 1 }) := by
  refine .of_wp fun prog w A R s hS => ?_
  obtain ⟨hsz, h⟩ := hS
  show wpAny _ _ (Bytes.bytesLike _ (.bytes b t) >>= fun r => _) _ _ s
  refine wpAny_bind (wpAny_of_eq KBd.like_eq ?_)
  refine wpAny_bind (wpAny_of_eq KBd.held_eq ?_)
  show wpAny _ _ (_codecs.decodeRoad _ b (PySem.Str.ofString "latin1") none [] >>= fun v => _) _ _ s
  rw [road_latin1]
  refine wpAny_bind (wpAny_bind (runDecoder_latin1 hsz ?_))
  exact wpAny_mkStr (wpAny_pure ⟨_, rfl, h⟩) (by show (b.map UInt8.toNat).size ≤ sizeLine; simpa using hsz)

section
variable {prog : Program} {w : World} {A : Around} {E : Value → Shared → Prop} {s : Shared}
theorem decode_kw {b : Array UInt8} {t u : Tok} {Q : Value → Shared → Prop} (hb : b.size ≤ sizeLine) (h : ∀ t' k, Q (.str ⟨b.map UInt8.toNat⟩ t') { s with toks := k }) :
    wpAny (model prog w) A (call (.builtin "bytes.decode") [.bytes b t] [(PySem.Str.ofString "encoding", .str (PySem.Str.ofString "latin1") u)]) Q E s := by
  refine wpAny_call_entry_kw FB.slot_bytes_decode (typeIs_bytes _ _ _) FB.entry_bytes_decode ?_ (args_decode_kw _ _)
  obtain ⟨l⟩ := b
  cases l with
  | nil =>
    rw [dec_nil]
    refine wpAny_bind (wpAny_rule (wpAny_bind (wpAny_mkStr (wpAny_pure ⟨_, rfl, ?_⟩) (by decide))))
    have e : (⟨Array.map UInt8.toNat ⟨[]⟩⟩ : PySem.Str) = PySem.Str.empty := by simp [PySem.Str.empty]
    have := h s.toks (s.toks + 1)
    rw [e] at this
    exact this
  | cons c cs =>
    rw [dec_eq]
    refine wpAny_bind (wpAny_mkStr ?_ (by decide))
    refine wpAny_bind (wpAny_mkStr ?_ (by decide))
    refine wpAny_bind (wpAny_mkStr ?_ (by decide))
    exact wpAny_bind (call_function_meets KBd.kind_text KBd.plain_text KBd.entry_text (KBd.args_text _ _ _ _) meets_text ⟨hb, wpAny_pure ⟨_, rfl, h _ _⟩⟩)

theorem str_latin1 {b : Array UInt8} {t u : Tok} {Q : Value → Shared → Prop} (hb : b.size ≤ sizeLine) (h : ∀ t' k, Q (.str ⟨b.map UInt8.toNat⟩ t') { s with toks := k }) :
    wpAny (model prog w) A (call (.type "str") [.bytes b t, .str (PySem.Str.ofString "latin1") u]) Q E s := by
  refine callType_new PySem.F.called_str (by decide) (typeCall_str_2 _ _) (newCall_str_2 _ _) (fun obj => args_object_init_3 obj _ _) PySem.F.entry_str_new
    (S := fun _ R s => ∀ t' k, R (.ok (.ret (.str ⟨b.map UInt8.toNat⟩ t'))) { s with toks := k }) ?_ (fun t' k => ⟨typeIs_str _ _ _, h t' k⟩)
  refine .of_wp fun prog w A R s hS => ?_
  rw [new_eq]
  refine wpAny_bind (wpAny_mkStr ?_ (by decide))
  refine wpAny_bind (wpAny_rule (wpAny_bind (decode_kw hb fun t' k => wpAny_pure ⟨_, rfl, hS t' k⟩)))

theorem encode_call {x : PySem.Str} {t u : Tok} {Q : Value → Shared → Prop} (hb : x.cps.size ≤ sizeLine) (hx : ∀ c ∈ x.cps, c < 256) (h : ∀ t' k, Q (.bytes (x.cps.map Nat.toUInt8) t') { s with toks := k }) :
    wpAny (model prog w) A (call (.builtin "str.encode") [.str x t, .str (PySem.Str.ofString "latin1") u]) Q E s := by
  refine wpAny_call_entry PySem.F.slot_str_encode (typeIs_str _ _ _) PySem.F.entry_str_encode ?_ (PySem.F.args_str_encode_2 _ _)
  rw [enc_eq]
  refine wpAny_bind (wpAny_bind (encode_latin1 hb hx ?_))
  unfold mkBytes
  rw [if_neg (by simpa using hb)]
  refine wpAny_bind (wpAny_fresh (wpAny_pure (wpAny_pure ⟨_, rfl, h _ _⟩)))
end
end Mine

end
section
open PySem PySem.W PyProof.Rows PySem.Builtin PySem.Builtin.Str
namespace Mine
def tabOK (es : Array DictEntry) : Bool :=
  (es.toList.all fun e => match e.key with | .int k _ => decide (k < 128) && (e.hash == hashInt k) | _ => false) &&
  (List.range 128).all fun c => match findBy Value.isInt es (c : Int) with | none => !special c | some (.str y _) => special c && (y == ⟨#[92, c]⟩) | _ => false

theorem special_big {c : Nat} (h : 128 ≤ c) : special c = false := by
  unfold special
  simp
  omega

theorem tab_for {es : Array DictEntry} (ok : tabOK es = true) : TabFor (findBy Value.isInt es) := by
  unfold tabOK at ok
  rw [Bool.and_eq_true] at ok
  obtain ⟨h1, h2⟩ := ok
  intro c
  by_cases hc : c < 128
  · have := List.all_eq_true.mp h2 c (List.mem_range.mpr hc)
    revert this
    cases hf : findBy Value.isInt es (c : Int) with
    | none => intro h; exact .inl ⟨by simpa using h, rfl⟩
    | some v =>
      cases v with
      | str y u =>
        intro h
        rw [Bool.and_eq_true] at h
        exact .inr ⟨h.1, u, by rw [eq_of_beq h.2]⟩
      | _ => intro h; cases h
  · refine .inl ⟨special_big (by omega), ?_⟩
    unfold findBy
    have : es.find? (fun e => Value.isInt (c : Int) e.key) = none := by
      rw [Array.find?_eq_none]
      intro e he
      have := List.all_eq_true.mp h1 e (by simpa using he)
      revert this
      cases hk : e.key with
      | int k t =>
        intro h
        simp only [Bool.and_eq_true, decide_eq_true_eq] at h
        simp [Value.isInt]
        omega
      | _ => intro h; cases h
    rw [this]
    rfl

theorem tab_of {prog : Program} {w : World} {K : Frag} {h : Heap} {d : Addr} (X : K.In h) {es : Array DictEntry} {ep : Nat} (e : K.lookup d = some ⟨.type "dict", none, .dict es ep, #[]⟩) (ok : tabOK es = true) :
    h.MapOf (intKind prog w) d (findBy Value.isInt es) := by
  refine ⟨_, es, ep, X _ _ e, ⟨rfl, rfl, rfl⟩, rfl, ?_, fun k => rfl⟩
  intro en hen
  unfold tabOK at ok
  rw [Bool.and_eq_true] at ok
  have := List.all_eq_true.mp ok.1 en (by simpa using hen)
  revert this
  cases hk : en.key with
  | int k t =>
    intro h
    simp only [Bool.and_eq_true, decide_eq_true_eq] at h
    exact ⟨k, by simp [intKind, Value.isInt], eq_of_beq h.2⟩
  | _ => intro h; cases h

section
variable {M : Model} {A : Around} {E : Value → Shared → Prop} {s : Shared}
theorem gm_translate {x : PySem.Str} {t : Tok} {pl : Sem Bool} {Q : Value × List Value → Shared → Prop} (h : Q (.builtin "str.translate", [.str x t]) s) : wpAny M A (getMethod (.str x t) (PySem.Str.ofString "translate") pl) Q E s := by
  with_reducible exact PySem.GM.of (.str x t) (typeIs_str _ _ _) PySem.F.slot_str_translate PySem.F.type_str_translate PySem.GM.noRef h
theorem gm_encode {x : PySem.Str} {t : Tok} {pl : Sem Bool} {Q : Value × List Value → Shared → Prop} (h : Q (.builtin "str.encode", [.str x t]) s) : wpAny M A (getMethod (.str x t) (PySem.Str.ofString "encode") pl) Q E s := by
  with_reducible exact PySem.GM.of (.str x t) (typeIs_str _ _ _) PySem.F.slot_str_encode PySem.F.type_str_encode PySem.GM.noRef h
end
theorem tr_step {prog : Program} {w : World} {A : Around} {E : Value → Shared → Prop} {s : Shared} {K : Frag} {h₀ : Heap} {L : Addr} {m : PySem.Str → Option Value} {news : List (Addr × Obj)} {d : Addr} {x : PySem.Str} {t : Tok} {es : Array DictEntry} {ep : Nat} {Q : Value → Shared → Prop}
   (F : Fr h₀ L s.heap m) (N : News h₀ L s.heap news) (X : K.In h₀) (e : K.lookup d = some ⟨.type "dict", none, .dict es ep, #[]⟩) (ok : tabOK es = true) (hd : (d == sysModules) = false) (hA : A.handled = none) (hlen : 2 * x.cps.size ≤ sizeLine)
   (h : ∀ h' tk' t', Fr h₀ L h' m → News h₀ L h' news → Q (.str ⟨(esc x.cps.toList).toArray⟩ t') { s with heap := h', toks := tk' }) :
   wpAny (model prog w) A (call (.builtin "str.translate") [.str x t, .ref d]) Q E s :=
  translate_rule hA hd (tab_of (X.keeps F.keep) e ok) (tab_for ok) hlen fun h' tk' t' g => h h' tk' t' (F.keeps g) (N.grown g)

def octs (l : List Nat) : Array UInt8 := (l.map Nat.toUInt8).toArray
def cpsOf (b : Array UInt8) : List Nat := b.toList.map UInt8.toNat
theorem esc_small {l : List Nat} (h : ∀ c ∈ l, c < 256) : ∀ c ∈ esc l, c < 256 := by
  intro c hc
  obtain ⟨d, hd, hcd⟩ := List.mem_flatMap.mp hc
  unfold escC at hcd
  have := h d hd
  split at hcd
  · simp at hcd; omega
  · simp at hcd; omega
theorem cpsOf_small {b : Array UInt8} : ∀ c ∈ cpsOf b, c < 256 := by
  intro c hc
  obtain ⟨d, _, rfl⟩ := List.mem_map.mp hc
  exact d.toNat_lt

theorem special_iff {c : Nat} : special c = true ↔ ((9 ≤ c ∧ c ≤ 13) ∨ (40 ≤ c ∧ c ≤ 43) ∨ (91 ≤ c ∧ c ≤ 94) ∨ (123 ≤ c ∧ c ≤ 126) ∨ c = 32 ∨ c = 35 ∨ c = 36 ∨ c = 38 ∨ c = 45 ∨ c = 46 ∨ c = 63) := by
  unfold special
  simp only [Bool.or_eq_true, Bool.and_eq_true, decide_eq_true_eq, beq_iff_eq]
  omega
theorem special_any {c : Nat} (h : ¬ ((9 ≤ c ∧ c ≤ 13) ∨ (40 ≤ c ∧ c ≤ 43) ∨ (91 ≤ c ∧ c ≤ 94) ∨ (123 ≤ c ∧ c ≤ 126))) : ([32, 35, 36, 38, 45, 46, 63].any fun x : Int => x == (c : Int)) = special c := by
  rw [Bool.eq_iff_iff, special_iff]
  simp only [List.any_cons, List.any_nil, Bool.or_false, Bool.or_eq_true, beq_iff_eq]
  omega
theorem News.tl {h₀ h : Heap} {L : Addr} {q : Addr × Obj} {news : List (Addr × Obj)} (N : News h₀ L h (q :: news)) : News h₀ L h news := fun p hp => N p (List.mem_cons_of_mem _ hp)
end Mine

end
section
open PySem PySem.W PyProof.Rows PySem.Spec PySem.Calls
namespace Mine

theorem ne_allLt {d : Addr} : ∀ {l : List (Addr × Obj)}, AllLt d l → ∀ p ∈ l, p.1 ≠ d
  | [], _, _, h => nomatch h
  | q :: _, x, p, h => by
    rcases List.mem_cons.mp h with rfl | h
    · exact Nat.ne_of_lt x.1
    · exact ne_allLt x.2 p h
theorem ne_lt {d : Addr} {l : List (Addr × Obj)} (h : ∀ p ∈ l, p.1 < d) : ∀ p ∈ l, p.1 ≠ d := fun p hp => Nat.ne_of_lt (h p hp)

/-- a claim of a def, with room for k frames -/
abbrev Claim (k : Nat) (prog : Program) (w : World) (K : Frag) (p : Program) (loose : List Str) (mean : ExcName → Option Value) (mg mb : Str → Option Value) (f : Addr) (news : List (Addr × Obj)) (vs : List Value) (R : Tok → Value) : Prop :=
  ∀ (dp un : Nat) (gd : Option (List Code)) (cn : Str) (cs : Scope) (a : Addr) (ccd : Value) (cl : List (Str × Addr)) (outer : List Env) (A₀ : Around) (base h₀ : Heap) (L : Addr) (m : Str → Option Value) (s : Shared) (Q E : Value → Shared → Prop),
    Below A₀ base outer h₀ → Fr h₀ L s.heap m → K.In h₀ → News h₀ L s.heap news → Top p loose mean mg mb h₀ → cs.kind = .function →
    dp + k < recursionLimit → un + 8 * k < cLine → (∀ (t : Tok) (h' : Heap) (tk' : Nat), Fr h₀ L h' m → News h₀ L h' news → Q (R t) { s with heap := h', toks := tk' }) →
      wpAny (model prog w) (ktrTop dp un gd cn cs L a ccd cl outer) (call (.ref f) vs) Q E s

theorem claim_use {k : Nat} {prog : Program} {w : World} {K : Frag} {p : Program} {loose : List Str} {mean : ExcName → Option Value} {mg mb : Str → Option Value} {f : Addr} {news : List (Addr × Obj)} {vs : List Value} {R : Tok → Value}
    {dp un : Nat} {gd : Option (List Code)} {cn : Str} {cs : Scope} {a : Addr} {ccd : Value} {cl : List (Str × Addr)} {outer : List Env} {A₀ : Around} {base h₀ : Heap} {L : Addr} {m : Str → Option Value} {s : Shared} {Q E : Value → Shared → Prop}
    (C : Claim k prog w K p loose mean mg mb f news vs R) (B : Below A₀ base outer h₀) (F : Fr h₀ L s.heap m) (X : K.In h₀) (N : News h₀ L s.heap news) (T : Top p loose mean mg mb h₀) (hk : cs.kind = .function)
    (hd : dp + k < recursionLimit) (hu : un + 8 * k < cLine) (ret : ∀ (t : Tok) (h' : Heap) (tk' : Nat), Fr h₀ L h' m → News h₀ L h' news → Q (R t) { s with heap := h', toks := tk' }) :
    wpAny (model prog w) (ktrTop dp un gd cn cs L a ccd cl outer) (call (.ref f) vs) Q E s := C _ _ _ _ _ _ _ _ _ _ _ _ _ _ _ _ _ B F X N T hk hd hu ret

/-- what a turn must show at its end -/
def TEnd (h₀ : Heap) (L : Addr) (J : (Str → Option Value) → List (Addr × Obj) → Prop) (I : Addr) (oI : Obj) (s₁ s₂ : Shared) : Prop :=
  ∃ h' tk m' news', s₂ = { s₁ with heap := h', toks := tk } ∧ Fr h₀ L h' m' ∧ News h₀ L h' ((I, oI) :: news') ∧ (∀ p ∈ news', p.1 ≠ I) ∧ J m' news'
def TPost (h₀ : Heap) (L : Addr) (J : (Str → Option Value) → List (Addr × Obj) → Prop) (I : Addr) (oI : Obj) (s₁ : Shared) (Q : Flow → Shared → Prop) (f : Flow) (s₂ : Shared) : Prop :=
  match f with
  | .ret v => Q (.ret v) s₂
  | .brk => Q .next s₂
  | _ => TEnd h₀ L J I oI s₁ s₂
section
variable {h₀ : Heap} {L : Addr} {J : (Str → Option Value) → List (Addr × Obj) → Prop} {I : Addr} {oI : Obj} {s₁ s₂ : Shared} {Q : Flow → Shared → Prop}
theorem TPost.next (h : TEnd h₀ L J I oI s₁ s₂) : TPost h₀ L J I oI s₁ Q .next s₂ := h
theorem TPost.ret {v : Value} (h : Q (.ret v) s₂) : TPost h₀ L J I oI s₁ Q (.ret v) s₂ := h
theorem TPost.cont (h : TEnd h₀ L J I oI s₁ s₂) : TPost h₀ L J I oI s₁ Q .cont s₂ := h
theorem TEnd.mk' {h' : Heap} {tk : Nat} {m' : Str → Option Value} {all news' : List (Addr × Obj)} (F : Fr h₀ L h' m') (N : News h₀ L h' all) (sub : ∀ p ∈ (I, oI) :: news', p ∈ all) (off : ∀ p ∈ news', p.1 ≠ I) (j : J m' news') :
    TEnd h₀ L J I oI s₁ { s₁ with heap := h', toks := tk } := ⟨h', tk, m', news', rfl, F, fun p hp => N p (sub p hp), off, j⟩
end

section
variable {prog : Program} {w : World} {A : Around} {E : Value → Shared → Prop} {s : Shared} {env : Env} {h₀ : Heap} {x : Str} {body : List Stmt} {Q : Flow → Shared → Prop}

theorem loop_of_walk {I : Addr} {n : Nat} {P : Nat → Value → Prop} {St : Nat → Heap → Prop} {o : Obj} {m₀ : Str → Option Value} {news : List (Addr × Obj)} (J : Nat → (Str → Option Value) → List (Addr × Obj) → Prop)
    (W : Walks prog w A I [I] [I] n P St) (alive : ∀ i h, St i h → ∃ o, h.get? I = some o) (hI : I = s.heap.objs.size) (hst : St 0 (s.heap.push o))
    (F : Fr h₀ env.locals s.heap m₀) (N : News h₀ env.locals s.heap news) (hj : J 0 m₀ news)
    (turn : ∀ i v m₁ news₁ h tk I oI, i < n → P i v → J i m₁ news₁ → (∀ p ∈ news₁, p.1 ≠ I) → Fr h₀ env.locals h (fun y => if y = x then some v else m₁ y) → News h₀ env.locals h ((I, oI) :: news₁) →
      wpAny (model prog w) A (execs body env) (TPost h₀ env.locals (J (i + 1)) I oI { s with heap := h, toks := tk } Q) E { s with heap := h, toks := tk })
    (done : ∀ m₁ news₁ h tk, J n m₁ news₁ → Fr h₀ env.locals h m₁ → News h₀ env.locals h news₁ → Q .next { s with heap := h, toks := tk }) :
    LoopAtV prog w A h₀ env x body Q E (.ref I) { s with heap := s.heap.push o } := by
  subst hI
  refine ⟨_, _, _, n, _, _, m₀, news, J, rfl, W, ?_, ?_, ?_, hst, F.push _, (fun p hp => ⟨Heap.get?_push_of_some _ (N p hp).1, (N p hp).2⟩), hj, ?_, ?_⟩
  · intro hm
    exact absurd F.ns.lt ((List.mem_singleton.mp hm) ▸ Nat.lt_irrefl _)
  · intro b hb
    rw [List.mem_singleton.mp hb]
    exact next_is_new F
  · intro p hp hI
    exact absurd (Heap.lt_size (N p hp).1) ((List.mem_singleton.mp hI) ▸ Nat.lt_irrefl _)
  · rintro i v m₁ news₁ s₁ own ⟨hh', tk', rfl⟩ hin hP hJ hoff hsub hget hall hst₁ F₁ N₁
    obtain ⟨oI, hoI⟩ := alive _ _ hst₁
    have hI₀ : h₀.get? s.heap.objs.size = none := next_is_new F
    have hmem : (s.heap.objs.size, oI) ∈ own := hall _ (List.mem_singleton.mpr rfl) hI₀ oI hoI
    have hown : ∀ p ∈ own, p = (s.heap.objs.size, oI) := fun p hp => by
      have h1 : p.1 = s.heap.objs.size := List.mem_singleton.mp (hsub p hp)
      have h2 := hget p hp
      rw [h1] at h2
      have h3 : some oI = some p.2 := hoI.symm.trans h2
      obtain ⟨p1, p2⟩ := p
      cases h1; cases h3; rfl
    have hoff' : ∀ p ∈ news₁, p.1 ≠ s.heap.objs.size := fun p hp e => hoff p hp (List.mem_singleton.mpr e)
    refine wpAny_mono (turn i v m₁ news₁ hh' tk' s.heap.objs.size oI hin hP hJ hoff' F₁ ?_) (fun f s₂ p => ?_) fun _ _ e => e
    · intro p hp
      rcases List.mem_cons.mp hp with rfl | hp
      · exact N₁ _ (List.mem_append_left _ hmem)
      · exact N₁ p (List.mem_append_right _ hp)
    have fin : TEnd h₀ env.locals (J (i + 1)) s.heap.objs.size oI { s with heap := hh', toks := tk' } s₂ → LoopStepU h₀ env.locals [s.heap.objs.size] own (J (i + 1)) { s with heap := hh', toks := tk' } .next s₂ := by
      rintro ⟨h', tk, m', news', e, F', N', off, hm⟩
      refine ⟨rfl, h', tk, m', news', e, F', fun p hp => ?_, fun p hp hI => off p hp (List.mem_singleton.mp hI), hm⟩
      rcases List.mem_append.mp hp with hp | hp
      · rw [hown p hp]; exact N' _ (List.mem_cons_self ..)
      · exact N' p (List.mem_cons_of_mem _ hp)
    cases f with
    | ret v => exact .ret p
    | brk => exact .brk p
    | next => exact .next (fin p)
    | cont => exact .cont (fin p)
  · rintro h' tk m' news' F' N' _ hJ
    exact done m' news' h' tk hJ F' N'

abbrev Inv := (Str → Option Value) → List (Addr × Obj) → Nat → (Str → Option Value) → List (Addr × Obj) → Prop

theorem iter_str {y : PySem.Str} {t : Tok} {m₀ : Str → Option Value} {news : List (Addr × Obj)} (J : Inv)
    (hh : A.handled = none) (F : Fr h₀ env.locals s.heap m₀) (N : News h₀ env.locals s.heap news) (hj : J m₀ news 0 m₀ news)
    (turn : ∀ i c u m₁ news₁ h tk I oI, y.cps.toList[i]? = some c → J m₀ news i m₁ news₁ → (∀ p ∈ news₁, p.1 ≠ I) → Fr h₀ env.locals h (fun z => if z = x then some (.str ⟨#[c]⟩ u) else m₁ z) → News h₀ env.locals h ((I, oI) :: news₁) →
      wpAny (model prog w) A (execs body env) (TPost h₀ env.locals (J m₀ news (i + 1)) I oI { s with heap := h, toks := tk } Q) E { s with heap := h, toks := tk })
    (done : ∀ m₁ news₁ h tk, J m₀ news y.cps.toList.length m₁ news₁ → Fr h₀ env.locals h m₁ → News h₀ env.locals h news₁ → Q .next { s with heap := h, toks := tk }) :
    wpAny (model prog w) A (pyIter (.str y t)) (fun it s₂ => LoopAtV prog w A h₀ env x body Q E it s₂) E s := by
  have turn' : ∀ i v m₁ news₁ h tk I oI, i < y.cps.size → SignAt y i v → J m₀ news i m₁ news₁ → (∀ p ∈ news₁, p.1 ≠ I) → Fr h₀ env.locals h (fun z => if z = x then some v else m₁ z) → News h₀ env.locals h ((I, oI) :: news₁) →
      wpAny (model prog w) A (execs body env) (TPost h₀ env.locals (J m₀ news (i + 1)) I oI { s with heap := h, toks := tk } Q) E { s with heap := h, toks := tk } := by
    rintro i v m₁ news₁ h tk I oI _ ⟨c, u, hc, rfl⟩ hJ off F' N'
    exact turn i c u m₁ news₁ h tk I oI (by simpa using hc) hJ off F' N'
  have done' : ∀ m₁ news₁ h tk, J m₀ news y.cps.size m₁ news₁ → Fr h₀ env.locals h m₁ → News h₀ env.locals h news₁ → Q .next { s with heap := h, toks := tk } := by simpa using done
  cases ha : y.cps.all (· < 128)
  · refine wpAny_pyIter_wide ha ?_
    exact loop_of_walk (J m₀ news) (Walks.strWide hh _ y t) (fun i h st => by obtain ⟨o, e, _⟩ := st; exact ⟨o, e⟩) rfl ⟨_, Heap.get?_push_size _ rfl, rfl, rfl⟩ F N hj turn' done'
  · refine wpAny_pyIter_ascii ha ?_
    exact loop_of_walk (J m₀ news) (Walks.strAscii hh _ y t) (fun i h st => by obtain ⟨o, e, _⟩ := st; exact ⟨o, e⟩) rfl ⟨_, Heap.get?_push_size _ rfl, rfl, rfl⟩ F N hj turn' done'

/-- a goal that the walk leaves alone -/
def Stop (P : Prop) : Prop := P
theorem stop_For {m : Str → Option Value} {px pos : Pos} {iter : Expr} (_F : Fr h₀ env.locals s.heap m) (hx : env.kindOf x = some .local)
    (hp : (env.scope.kind == .class || (env.scope.kind == .module && env.locals != env.globals)) = false)
    (h : wpAny (model prog w) A (eval iter env) (fun xv s₁ => Stop (wpAny (model prog w) A (pyIter xv) (fun it s₂ => LoopAtV prog w A h₀ env x body Q E it s₂) E s₁)) E s)
    (hs : ∀ x, foldedSetIterable iter env x = pure x := by intro _; rfl)
    (hE : PassesOwn (model prog w) A env E := by passes_own) :
    wpAny (model prog w) A (exec (.For (.Name x px) iter body [] pos) env) Q E s := For_invVF _F hx hp h hs
end
end Mine

end
section
open PySem PySem.W PyProof.Rows PySem.Spec PySem.Calls
namespace Mine
abbrev tx (l : List Nat) : PySem.Str := ⟨l.toArray⟩
theorem tx_len (l : List Nat) : (tx l).length = l.length := by simp [PySem.Str.length]
theorem tx_append (a b : List Nat) : tx a ++ tx b = tx (a ++ b) := by
  show PySem.Str.append _ _ = _
  simp [PySem.Str.append, tx]
theorem tx_cps (x : PySem.Str) : x = tx x.cps.toList := by simp [tx]
theorem tx_inj {a b : List Nat} (h : tx a = tx b) : a = b := by
  have : (tx a).cps.toList = (tx b).cps.toList := by rw [h]
  simpa using this
theorem map_self (m : Str → Option Value) (a : Str) : m = fun y => if y = a then m a else m y := by
  funext y
  by_cases h : y = a
  · subst h; simp
  · simp [h]
/-- texts with one between each two -/
def glue (sep : List Nat) : List (List Nat) → List Nat
  | [] => []
  | [x] => x
  | x :: r => x ++ sep ++ glue sep r
theorem join_tx (sep : List Nat) : ∀ ls : List (List Nat), Txt.join (tx sep) (ls.map tx) = tx (glue sep ls) := by
  intro ls
  show PySem.Builtin.Str.glued _ _ = _
  rw [PySem.StrLaws.glued_eq_join]
  induction ls with
  | nil => rfl
  | cons x r ih =>
    cases r with
    | nil => rfl
    | cons y r =>
      show tx x ++ tx sep ++ PySem.Str.join (tx sep) ((y :: r).map tx) = _
      rw [ih, tx_append, tx_append]
      rfl
theorem glue_nil : ∀ ls : List (List Nat), glue [] ls = ls.flatten
  | [] => rfl
  | [x] => by simp [glue]
  | x :: y :: r => by
    show x ++ [] ++ glue [] (y :: r) = _
    rw [glue_nil (y :: r)]
    simp
theorem ofString_nil : PySem.Str.ofString "" = tx [] := by decide +kernel
theorem ofString_bs : PySem.Str.ofString "\\" = tx [92] := by decide +kernel
theorem foldl_rep (c : Nat) : ∀ (n : Nat) (acc : Array Nat), ((List.replicate n #[c]).foldl (· ++ ·) acc) = acc ++ (List.replicate n c).toArray := by
  intro n
  induction n with
  | zero => intro acc; simp
  | succ n ih =>
    intro acc
    rw [List.replicate_succ, List.foldl_cons, ih, List.replicate_succ]
    apply Array.toList_inj.mp
    simp
theorem mul_tx (n : Int) (c : Nat) : Txt.mul (tx [c]) n = tx (List.replicate n.toNat c) := by
  unfold Txt.mul
  by_cases h1 : n < 1
  · rw [if_pos h1, show n.toNat = 0 by omega]
    rfl
  · rw [if_neg h1]
    by_cases h2 : n = 1
    · subst h2; rfl
    · rw [if_neg (by simp [h2, PySem.Str.length])]
      have := foldl_rep c n.toNat #[]
      show (⟨_⟩ : PySem.Str) = ⟨_⟩
      rw [this]
      simp
section
variable {prog : Program} {w : World} {A : Around} {E : Value → Shared → Prop} {s : Shared} {Q : Value → Shared → Prop}
theorem mul_rule {n : Int} {t u : Tok} (hn : n ≤ 1000000) (hlo : -(2 ^ 63 : Int) ≤ n) (h : ∀ t' k, Q (.str (tx (List.replicate n.toNat 92)) t') { s with toks := k }) :
    wpAny (model prog w) A (binaryOp .Mult (.str (PySem.Str.ofString "\\") t) (.int n u)) Q E s := by
  rw [ofString_bs]
  refine SB.mul (mulOk_of 1 1000000 (by decide) hn hlo (by decide) (by decide)) fun t' k => ?_
  rw [mul_tx]
  exact h t' k
theorem add_rule {a b : PySem.Str} {t u : Tok} (hsz : a.cps.size + b.cps.size ≤ sizeLine) (h : ∀ t' k, Q (.str (tx (a.cps.toList ++ b.cps.toList)) t') { s with toks := k }) :
    wpAny (model prog w) A (binaryOp .Add (.str a t) (.str b u)) Q E s := by
  have e : a ++ b = tx (a.cps.toList ++ b.cps.toList) := by
    rw [← tx_append, ← tx_cps, ← tx_cps]
  refine PyProof.Rows.add_str (fun t' tk => ?_) hsz
  rw [e]; exact h _ _
theorem iadd_rule {a b : PySem.Str} {t u : Tok} (hsz : a.cps.size + b.cps.size ≤ sizeLine) (h : ∀ t' k, Q (.str (tx (a.cps.toList ++ b.cps.toList)) t') { s with toks := k }) :
    wpAny (model prog w) A (inplaceOp .Add (.str a t) (.str b u)) Q E s := by
  have e : a ++ b = tx (a.cps.toList ++ b.cps.toList) := by
    rw [← tx_append, ← tx_cps, ← tx_cps]
  refine PyProof.Rows.iadd_str (fun t' tk => ?_) hsz
  rw [e]; exact h _ _
theorem join_rule {D : Addr} {items : Array Value} {t : Tok} {ls : List (List Nat)} (hl : s.heap.IsList D items) (hi : StrsAre items.toList (ls.map tx)) (hok : (ls.map (·.length)).sum ≤ 16777216)
    (h : ∀ t' k, Q (.str (tx ls.flatten) t') { s with toks := k }) : wpAny (model prog w) A (call (.builtin "str.join") [.str (PySem.Str.ofString "") t, .ref D]) Q E s := by
  rw [ofString_nil]
  refine join_list hl hi ?_ fun t' k => ?_
  · rw [List.map_map]
    have : (ls.map ((·.length) ∘ tx)) = ls.map (·.length) := by
      apply List.map_congr_left; intro l _; exact tx_len l
    rw [this]
    simpa [PySem.Str.length] using hok
  · rw [join_tx, glue_nil]
    exact h t' k
end

theorem map_over {m : Str → Option Value} {a : Str} {v v0 : Option Value} : (fun z => if z = a then v else (fun y => if y = a then v0 else m y) z) = fun y => if y = a then v else m y := by
  funext z
  by_cases h : z = a <;> simp [h]
theorem map_over' {m : Str → Option Value} {a : Str} {v v0 : Option Value} : (fun z => if z = a then v else if z = a then v0 else m z) = fun y => if y = a then v else m y := map_over
theorem strs_snoc {y : PySem.Str} {t : Tok} : ∀ {vs : List Value} {ys : List PySem.Str}, StrsAre vs ys → StrsAre (vs ++ [.str y t]) (ys ++ [y])
  | _, _, .nil => .cons y t .nil
  | _, _, .cons z u r => .cons z u (strs_snoc r)
theorem listOf_snoc (ys : List Value) (v : Value) : W.listOf (ys.toArray.push v) (ys.length + 1) = W.listOf (ys ++ [v]).toArray (ys ++ [v]).length := by simp
/-- a loop that puts one text a turn at the end of a list that was empty -/
def InvApp (x : Str) (g : Nat → List Nat) (l : List Nat) : Inv := fun m₀ nw₀ i m nw =>
  ∃ v0 ys D rest, m = (fun y => if y = x then v0 else m₀ y) ∧ nw₀ = (D, W.listOf #[] 0) :: rest ∧ nw = (D, W.listOf ys.toArray ys.length) :: rest ∧ StrsAre ys (((l.take i).map g).map tx)
theorem app_end {h₀ h' : Heap} {L : Addr} {m₀ : Str → Option Value} {x : Str} {g : Nat → List Nat} {l : List Nat} {i c : Nat} {v v0 : Option Value} {I D : Addr} {oI : Obj} {ys : List Value} {y : PySem.Str} {t : Tok} {rest : List (Addr × Obj)} {s₁ : Shared} {tk : Nat} {Q : Flow → Shared → Prop}
    (F : Fr h₀ L h' (fun z => if z = x then v else (fun y => if y = x then v0 else m₀ y) z)) (N : News h₀ L h' ((I, oI) :: (D, W.listOf (ys.toArray.push (.str y t)) (ys.length + 1)) :: rest)) (hI : @Ne Nat I D) (off : ∀ p ∈ rest, p.1 ≠ I)
    (hys : StrsAre ys (((l.take i).map g).map tx)) (hc : l[i]? = some c) (e : y = tx (g c)) :
    TPost h₀ L (InvApp x g l m₀ ((D, W.listOf #[] 0) :: rest) (i + 1)) I oI s₁ Q .next { s₁ with heap := h', toks := tk } := by
  rw [map_over] at F
  rw [listOf_snoc] at N
  refine TPost.next (TEnd.mk' F N (fun p hp => hp) (fun p hp => ?_) ⟨v, _, D, rest, rfl, rfl, rfl, ?_⟩)
  · rcases List.mem_cons.mp hp with rfl | hp
    · exact Ne.symm hI
    · exact off p hp
  · rw [List.take_add_one, hc, List.map_append, List.map_append]
    subst e
    exact strs_snoc hys

theorem mod_val {prog : Program} {w : World} {A : Around} {E : Value → Shared → Prop} {s : Shared} {Q : Value → Shared → Prop} {a b k : Int} {t u : Tok} (e : a.fmod b = k) (hb : b ≠ 0) (h : ∀ t' tk, Q (.int k t') { s with toks := tk }) :
    wpAny (model prog w) A (binaryOp .Mod (.int a t) (.int b u)) Q E s := by
  subst e
  exact mod_int' hb (h _ _)
end Mine

end
section
open PySem PySem.W PyProof.Rows PySem.Spec PySem.Calls
namespace Mine
/-- two lists, item by item -/
inductive All2 {α β : Type} (R : α → β → Prop) : List α → List β → Prop
  | nil : All2 R [] []
  | cons {a b l r} : R a b → All2 R l r → All2 R (a :: l) (b :: r)
theorem All2.snoc {α β : Type} {R : α → β → Prop} {a : α} {b : β} (h : R a b) : ∀ {l r}, All2 R l r → All2 R (l ++ [a]) (r ++ [b])
  | _, _, .nil => .cons h .nil
  | _, _, .cons h' t => .cons h' (t.snoc h)
theorem All2.len {α β : Type} {R : α → β → Prop} : ∀ {l : List α} {r : List β}, All2 R l r → r.length = l.length
  | _, _, .nil => rfl
  | _, _, .cons _ t => by simp [t.len]
theorem All2.strs {α : Type} {g : α → List Nat} : ∀ {l : List α} {r : List Value}, All2 (fun a y => ∃ t, y = .str (tx (g a)) t) l r → StrsAre r ((l.map g).map tx)
  | _, _, .nil => .nil
  | _, _, .cons ⟨t, h⟩ r => by subst h; exact .cons _ t r.strs
theorem All2.ints {α : Type} {g : α → Int} : ∀ {l : List α} {r : List Value}, All2 (fun a y => ∃ t, y = .int (g a) t) l r → IntsAre r (l.map g)
  | _, _, .nil => .nil
  | _, _, .cons ⟨t, h⟩ r => by subst h; exact .cons _ t r.ints

/-- an element's end: the ledger stands as it stood -/
def CEnd (h₀ : Heap) (L : Addr) (m : Str → Option Value) (s₁ : Shared) (news : List (Addr × Obj)) (R : Value → Prop) (y : Value) (s₂ : Shared) : Prop :=
  ∃ h' tk, s₂ = { s₁ with heap := h', toks := tk } ∧ Fr h₀ L h' m ∧ News h₀ L h' news ∧ R y
theorem CEnd.mk' {h₀ h' : Heap} {L : Addr} {m : Str → Option Value} {s₁ : Shared} {news all : List (Addr × Obj)} {R : Value → Prop} {y : Value} {tk : Nat} (F : Fr h₀ L h' m) (N : News h₀ L h' all) (sub : ∀ p ∈ news, p ∈ all) (r : R y) :
    CEnd h₀ L m s₁ news R y { s₁ with heap := h', toks := tk } := ⟨h', tk, rfl, F, fun p hp => N p (sub p hp), r⟩

section
variable {prog : Program} {w : World} {A : Around} {E : Value → Shared → Prop} {s : Shared} {h₀ : Heap} {L : Addr} {m : Str → Option Value} {env : Env}

abbrev Turn {α : Type} (prog : Program) (w : World) (A : Around) (h₀ : Heap) (L : Addr) (m : Str → Option Value) (env : Env) (elt : Expr) (x : Str) (scope : Scope) (cl : List (Str × Addr)) (s : Shared) (its : List α) (P R : α → Value → Prop) (news : List (Addr × Obj)) : Prop :=
  ∀ (a : α) (v : Value) (I : Addr) (oI : Obj) (C : Addr) (oC : Obj) (D : Addr) (m₂ : Str → Option Value) (ys : List Value) (h : Heap) (tk : Nat) (E' : Value → Shared → Prop), a ∈ its → P a v → LCg.NsObj oC m₂ → m₂ x = some v → Fr h₀ L h m → News h₀ L h ((I, oI) :: (C, oC) :: (D, LCg.lst ys) :: news) → LCg.Off3 I C D news → ((@Ne Nat I C) ∧ (@Ne Nat I D) ∧ (@Ne Nat C D)) →
    wpAny (model prog w) A (eval elt (compEnvC scope cl C env)) (CEnd h₀ L m { s with heap := h, toks := tk } ((I, oI) :: (C, oC) :: (D, LCg.lst ys) :: news) (R a)) E' { s with heap := h, toks := tk }

theorem comp_rest {α : Type} {elt : Expr} {x : Str} {scope : Scope} {cl : List (Str × Addr)} {S : List (Addr × Obj) → Prop} {P' : Nat → Value → Prop} {Fin : List Value → List (Addr × Obj) → Prop} {news : List (Addr × Obj)} {its : List α} {P R : α → Value → Prop}
    (hP : ∀ i v, P' i v → ∃ a, its[i]? = some a ∧ P a v) (hS : S news) (turn : Turn prog w A h₀ L m env elt x scope cl s its P R news) (fin : ∀ ys, All2 R its ys → Fin ys news) : LCg.CompRest prog w A h₀ L m env elt x scope cl s S P' Fin its.length 0 [] news := by
  have key : ∀ (j i : Nat) (ys : List Value), i + j = its.length → All2 R (its.take i) ys → LCg.CompRest prog w A h₀ L m env elt x scope cl s S P' Fin j i ys news := by
    intro j
    induction j with
    | zero =>
      intro i ys hi hy
      have e : i = its.length := by omega
      subst e
      rw [List.take_length] at hy
      exact LCg.CompRest.zero (fin ys hy)
    | succ j ih =>
      intro i ys hi hy
      refine LCg.CompRest.succ ?_
      intro v I oI C oC D m₂ h tk E' hv hC hx F N off ne
      obtain ⟨a, ha, hv'⟩ := hP i v hv
      refine wpAny_mono (turn a v I oI C oC D m₂ ys h tk E' (List.mem_of_getElem? ha) hv' hC hx F N off ne) (fun y s₂ hq => ?_) fun _ _ e => e
      obtain ⟨h', tk', e, F', N', hr⟩ := hq
      refine ⟨h', tk', news, e, F', N', off, hS, ih (i + 1) _ (by omega) ?_⟩
      rw [List.take_add_one, ha]
      exact hy.snoc hr
  exact key _ 0 [] (by omega) .nil

/-- what an iterator must bring so that the comprehension runs -/
def CompAt (prog : Program) (w : World) (A : Around) (h₀ : Heap) (L : Addr) (m : Str → Option Value) (env : Env) (elt : Expr) (x : Str) (scope : Scope) (cl : List (Str × Addr)) (Q : Value → Shared → Prop) (it : Value) (s₂ : Shared) : Prop :=
  ∃ (I : Addr) (fp : List Addr) (n : Nat) (P : Nat → Value → Prop) (St : Nat → Heap → Prop) (S : List (Addr × Obj) → Prop) (news : List (Addr × Obj)), it = .ref I ∧ Walks prog w A I fp [I] n P St ∧ n ≤ sizeLine ∧ (∀ i h, St i h → ∃ o, h.get? I = some o) ∧
    (∀ i h h' o nw, St i h → h.get? I = some o → h'.get? I = some o → (∀ b o, h₀.get? b = some o → h'.get? b = some o) → News h₀ L h' nw → S nw → St i h') ∧ St 0 s₂.heap ∧ (∀ b ∈ fp, b < s₂.heap.objs.size) ∧ Fr h₀ L s₂.heap m ∧ News h₀ L s₂.heap news ∧ L ≠ I ∧ h₀.get? I = none ∧ (∀ p ∈ news, p.1 ≠ I) ∧ S news ∧
    LCg.CompRest prog w A h₀ L m env elt x scope cl s₂ S P (LCg.FinE h₀ L m s₂ Q) n 0 [] news

theorem comp_stop {elt iter : Expr} {x : Str} {px : Pos} {scope : Scope} {cl : List (Str × Addr)} {pos : Pos} {Q : Value → Shared → Prop} (_F₀ : Fr h₀ L s.heap m)
    (hclos : closureFor scope env = pure cl) (hcell : ∀ y ∈ scope.names, y.2 ≠ .cell) (hkind : scope.kind = .function)
    (hnames : ∀ y ∈ scope.names, y.2 = .local → scope.names.lookup y.1 = some .local) (hx : scope.names.lookup x = some .local)
    (h : wpAny (model prog w) A (eval iter env) (fun xv s₁ => Stop (wpAny (model prog w) A (pyIter xv) (fun it s₂ => CompAt prog w A h₀ L m env elt x scope cl Q it s₂) E s₁)) E s)
    (hs : ∀ x, foldedSetIterable iter env x = pure x := by intro _; rfl) :
    wpAny (model prog w) A (eval (.ListComp elt [⟨.Name x px, iter, [], 0⟩] scope pos) env) Q E s := by
  rw [eval_ListComp]
  refine wpAny_comprehension_free (use := none) rfl hs hclos hkind hnames (wpAny_mono h (fun xv s₁ h₁ => wpAny_mono h₁ (fun it s₂ h₂ => ?_) fun _ _ e => e) fun _ _ e => e)
  obtain ⟨I, fp, n, P, St, S, news, rfl, W, hsz, hIo, hSt, hst, hfp, F, N, hIL, hI₀, off, hS, R⟩ := h₂
  refine LCg.block_U W hsz hIo hSt hcell hkind hx hst hfp F N hIL hI₀ off hS R ?_
  intro D C h tk m' ys news' F' N' o1 hn hC₀ hD₀ hCL hDL hCD offC fin
  refine ⟨m', hn, fun h'' hs'' => fin D h'' tk (F'.change hs'' hCL hC₀) (fun p hp => ?_) o1⟩
  refine ⟨hs''.extBut _ _ ?_ (N' p hp).1, (N' p hp).2⟩
  rcases List.mem_cons.mp hp with rfl | hp
  · exact Ne.symm hCD
  · exact offC p hp

theorem comp_walk {α : Type} {I : Addr} {o : Obj} {elt : Expr} {x : Str} {scope : Scope} {cl : List (Str × Addr)} {Q : Value → Shared → Prop} {P' : Nat → Value → Prop} {St : Nat → Heap → Prop} {news : List (Addr × Obj)} {its : List α} {P R : α → Value → Prop}
    (W : Walks prog w A I [I] [I] its.length P' St) (hI : I = s.heap.objs.size) (hsz : its.length ≤ sizeLine) (alive : ∀ i h, St i h → ∃ o, h.get? I = some o)
    (hSt : ∀ i h h' o, St i h → h.get? I = some o → h'.get? I = some o → St i h') (hst : St 0 (s.heap.push o)) (F : Fr h₀ L s.heap m) (N : News h₀ L s.heap news)
    (hP : ∀ i v, P' i v → ∃ a, its[i]? = some a ∧ P a v) (turn : Turn prog w A h₀ L m env elt x scope cl s its P R news)
    (fin : ∀ ys D h tk, All2 R its ys → Fr h₀ L h m → News h₀ L h ((D, LCg.lst ys) :: news) → LCg.Off1 D news → Q (.ref D) { s with heap := h, toks := tk }) :
    CompAt prog w A h₀ L m env elt x scope cl Q (.ref I) { s with heap := s.heap.push o } := by
  subst hI
  refine ⟨_, _, its.length, _, _, fun _ => True, news, rfl, W, hsz, alive, fun i h h' o nw a b c _ _ _ => hSt i h h' o a b c, hst, ?_, F.push _, (fun p hp => ⟨Heap.get?_push_of_some _ (N p hp).1, (N p hp).2⟩), Nat.ne_of_lt F.ns.lt, next_is_new F, (fun p hp => Nat.ne_of_lt (Heap.lt_size (N p hp).1)), trivial, ?_⟩
  · intro b hb
    rw [List.mem_singleton.mp hb]
    show s.heap.objs.size < (s.heap.push _).objs.size
    rw [Heap.size_push]; exact Nat.lt_succ_self _
  · refine comp_rest (R := R) hP trivial ?_ ?_
    · intro a v I oI C oC D m₂ ys h tk E' ha hv hC hx F N off ne
      exact turn a v I oI C oC D m₂ ys h tk E' ha hv hC hx F N off ne
    · intro ys hy D h tk F' N' o1
      exact fin ys D h tk hy F' N' o1

theorem comp_str {y : PySem.Str} {t : Tok} {elt : Expr} {x : Str} {scope : Scope} {cl : List (Str × Addr)} {Q : Value → Shared → Prop} {news : List (Addr × Obj)} {R : Nat → Value → Prop}
    (hh : A.handled = none) (F : Fr h₀ L s.heap m) (N : News h₀ L s.heap news) (hsz : y.cps.size ≤ sizeLine)
    (turn : Turn prog w A h₀ L m env elt x scope cl s y.cps.toList (fun c v => ∃ u, v = .str ⟨#[c]⟩ u) R news)
    (fin : ∀ ys D h tk, All2 R y.cps.toList ys → Fr h₀ L h m → News h₀ L h ((D, LCg.lst ys) :: news) → LCg.Off1 D news → Q (.ref D) { s with heap := h, toks := tk }) :
    wpAny (model prog w) A (pyIter (.str y t)) (fun it s₂ => CompAt prog w A h₀ L m env elt x scope cl Q it s₂) E s := by
  have hP : ∀ i v, SignAt y i v → ∃ a, y.cps.toList[i]? = some a ∧ ∃ u, v = .str ⟨#[a]⟩ u := by
    rintro i v ⟨c, u, hc, rfl⟩
    exact ⟨c, by simpa using hc, u, rfl⟩
  cases ha : y.cps.all (· < 128)
  · refine wpAny_pyIter_wide ha ?_
    have W := Walks.strWide (prog := prog) (w := w) hh s.heap.objs.size y t
    rw [show y.cps.size = y.cps.toList.length from Array.length_toList.symm] at W
    refine comp_walk W rfl (by simpa using hsz) (fun i h st => by obtain ⟨o, e, _⟩ := st; exact ⟨o, e⟩) ?_ ⟨_, Heap.get?_push_size _ rfl, rfl, rfl⟩ F N hP turn fin
    rintro i h h' o ⟨o', e, r⟩ e1 e2
    rw [e1] at e; cases e
    exact ⟨o, e2, r⟩
  · refine wpAny_pyIter_ascii ha ?_
    have W := Walks.strAscii (prog := prog) (w := w) hh s.heap.objs.size y t
    rw [show y.cps.size = y.cps.toList.length from Array.length_toList.symm] at W
    refine comp_walk W rfl (by simpa using hsz) (fun i h st => by obtain ⟨o, e, _⟩ := st; exact ⟨o, e⟩) ?_ ⟨_, Heap.get?_push_size _ rfl, rfl, rfl⟩ F N hP turn fin
    rintro i h h' o ⟨o', e, r⟩ e1 e2
    rw [e1] at e; cases e
    exact ⟨o, e2, r⟩

theorem comp_bytes {b : Array UInt8} {t : Tok} {elt : Expr} {x : Str} {scope : Scope} {cl : List (Str × Addr)} {Q : Value → Shared → Prop} {news : List (Addr × Obj)} {R : UInt8 → Value → Prop}
    (hh : A.handled = none) (F : Fr h₀ L s.heap m) (N : News h₀ L s.heap news) (hsz : b.size ≤ sizeLine)
    (turn : Turn prog w A h₀ L m env elt x scope cl s b.toList (fun c v => ∃ u, v = .int (c.toNat : Int) u) R news)
    (fin : ∀ ys D h tk, All2 R b.toList ys → Fr h₀ L h m → News h₀ L h ((D, LCg.lst ys) :: news) → LCg.Off1 D news → Q (.ref D) { s with heap := h, toks := tk }) :
    wpAny (model prog w) A (pyIter (.bytes b t)) (fun it s₂ => CompAt prog w A h₀ L m env elt x scope cl Q it s₂) E s := by
  refine KBw.pyIter_bytes ?_
  have W := KBw.walks (prog := prog) (w := w) hh s.heap.objs.size b t
  rw [show b.size = b.toList.length from Array.length_toList.symm] at W
  refine comp_walk W rfl (by simpa using hsz) (fun i h st => by obtain ⟨o, e, _⟩ := st; exact ⟨o, e⟩) ?_ ⟨_, Heap.get?_push_size _ rfl, rfl, rfl⟩ F N ?_ turn fin
  · rintro i h h' o ⟨o', e, r⟩ e1 e2
    rw [e1] at e; cases e
    exact ⟨o, e2, r⟩
  · rintro i v ⟨c, u, hc, rfl⟩
    exact ⟨c, by simpa using hc, u, rfl⟩

/-- over a list that stands in the ledger or below, and is not changed -/
theorem comp_list {ax : Addr} {vs : List Value} {elt : Expr} {x : Str} {scope : Scope} {cl : List (Str × Addr)} {Q : Value → Shared → Prop} {news : List (Addr × Obj)} {R : Value → Value → Prop}
    (hh : A.handled = none) (F : Fr h₀ L s.heap m) (N : News h₀ L s.heap news) (S : LCg.SrcAt h₀ ax vs.toArray news) (hsz : vs.length ≤ sizeLine)
    (turn : Turn prog w A h₀ L m env elt x scope cl s vs (fun a v => v = a) R news)
    (fin : ∀ ys D h tk, All2 R vs ys → Fr h₀ L h m → News h₀ L h ((D, LCg.lst ys) :: news) → LCg.Off1 D news → Q (.ref D) { s with heap := h, toks := tk }) :
    wpAny (model prog w) A (pyIter (.ref ax)) (fun it s₂ => CompAt prog w A h₀ L m env elt x scope cl Q it s₂) E s := by
  have hl := S.list F.keep N
  have hlt : ax < s.heap.objs.size := by obtain ⟨_, e, _⟩ := hl; exact Heap.lt_size e
  refine wpAny_pyIter_list hl ?_
  have W := Walks.list (prog := prog) (w := w) hh s.heap.objs.size ax (Nat.ne_of_lt hlt) vs.toArray
  have e : vs.toArray.size = vs.length := by simp
  rw [e] at W
  refine ⟨_, _, vs.length, _, _, LCg.SrcAt h₀ ax vs.toArray, news, rfl, W, hsz, (fun i h st => by obtain ⟨o, e, _⟩ := st.1; exact ⟨o, e⟩), LCg.list_st, ⟨⟨_, Heap.get?_push_size _ rfl, rfl, rfl⟩, hl.push _⟩, ?_, F.push _, (fun p hp => ⟨Heap.get?_push_of_some _ (N p hp).1, (N p hp).2⟩), Nat.ne_of_lt F.ns.lt, next_is_new F, (fun p hp => Nat.ne_of_lt (Heap.lt_size (N p hp).1)), S, ?_⟩
  · intro b hb
    show b < (s.heap.push _).objs.size
    rw [Heap.size_push]
    rcases List.mem_cons.mp hb with rfl | hb
    · exact Nat.lt_succ_self _
    · rw [List.mem_singleton.mp hb]; exact Nat.lt_succ_of_lt hlt
  · refine comp_rest (P := fun a v => v = a) (R := R) (fun i v hv => ⟨v, by simpa using hv, rfl⟩) S ?_ ?_
    · intro a v I oI C oC D m₂ ys h tk E' ha hv hC hx F N off ne
      exact turn a v I oI C oC D m₂ ys h tk E' ha hv hC hx F N off ne
    · intro ys hy D h tk F' N' o1
      exact fin ys D h tk hy F' N' o1

theorem comp_ints {ax : Addr} {vs : List Value} {ns : List Int} {elt : Expr} {x : Str} {scope : Scope} {cl : List (Str × Addr)} {Q : Value → Shared → Prop} {news : List (Addr × Obj)} {R : Int → Value → Prop}
    (hh : A.handled = none) (F : Fr h₀ L s.heap m) (N : News h₀ L s.heap news) (S : LCg.SrcAt h₀ ax vs.toArray news) (hi : IntsAre vs ns) (hsz : ns.length ≤ sizeLine)
    (turn : Turn prog w A h₀ L m env elt x scope cl s ns (fun k v => ∃ u, v = .int k u) R news)
    (fin : ∀ ys D h tk, All2 R ns ys → Fr h₀ L h m → News h₀ L h ((D, LCg.lst ys) :: news) → LCg.Off1 D news → Q (.ref D) { s with heap := h, toks := tk }) :
    wpAny (model prog w) A (pyIter (.ref ax)) (fun it s₂ => CompAt prog w A h₀ L m env elt x scope cl Q it s₂) E s := by
  refine comp_list (R := fun a y => ∃ k u, a = .int k u ∧ R k y) hh F N S (by rw [hi.length]; exact hsz) ?_ ?_
  · intro a v I oI C oC D m₂ ys h tk E' ha hv hC hx F N off ne
    obtain ⟨i, hai⟩ := List.getElem?_of_mem ha
    obtain ⟨k, u, e, hk⟩ := IntsAre.at hi i a hai
    refine wpAny_mono (turn k v I oI C oC D m₂ ys h tk E' (List.mem_of_getElem? hk) ⟨u, by rw [hv, e]⟩ hC hx F N off ne) (fun y s₂ hq => ?_) fun _ _ e => e
    obtain ⟨h', tk', e', F', N', hr⟩ := hq
    exact ⟨h', tk', e', F', N', k, u, e, hr⟩
  · intro ys D h tk hy F' N' o1
    refine fin ys D h tk ?_ F' N' o1
    clear turn fin F' N' S F N hsz
    induction hi generalizing ys with
    | nil => cases hy; exact .nil
    | cons k u _ ih =>
      cases hy with
      | cons h1 h2 =>
        obtain ⟨k', u', e, hr⟩ := h1
        cases e
        exact .cons hr (ih _ h2)

theorem comp_strs {ax : Addr} {vs : List Value} {ns : List PySem.Str} {elt : Expr} {x : Str} {scope : Scope} {cl : List (Str × Addr)} {Q : Value → Shared → Prop} {news : List (Addr × Obj)} {R : PySem.Str → Value → Prop}
    (hh : A.handled = none) (F : Fr h₀ L s.heap m) (N : News h₀ L s.heap news) (S : LCg.SrcAt h₀ ax vs.toArray news) (hi : StrsAre vs ns) (hsz : ns.length ≤ sizeLine)
    (turn : Turn prog w A h₀ L m env elt x scope cl s ns (fun k v => ∃ u, v = .str k u) R news)
    (fin : ∀ ys D h tk, All2 R ns ys → Fr h₀ L h m → News h₀ L h ((D, LCg.lst ys) :: news) → LCg.Off1 D news → Q (.ref D) { s with heap := h, toks := tk }) :
    wpAny (model prog w) A (pyIter (.ref ax)) (fun it s₂ => CompAt prog w A h₀ L m env elt x scope cl Q it s₂) E s := by
  refine comp_list (R := fun a y => ∃ k u, a = .str k u ∧ R k y) hh F N S (by rw [hi.length]; exact hsz) ?_ ?_
  · intro a v I oI C oC D m₂ ys h tk E' ha hv hC hx F N off ne
    obtain ⟨i, hai⟩ := List.getElem?_of_mem ha
    obtain ⟨k, u, e, hk⟩ := StrsAre.item hi i a hai
    refine wpAny_mono (turn k v I oI C oC D m₂ ys h tk E' (List.mem_of_getElem? hk) ⟨u, by rw [hv, e]⟩ hC hx F N off ne) (fun y s₂ hq => ?_) fun _ _ e => e
    obtain ⟨h', tk', e', F', N', hr⟩ := hq
    exact ⟨h', tk', e', F', N', k, u, e, hr⟩
  · intro ys D h tk hy F' N' o1
    refine fin ys D h tk ?_ F' N' o1
    clear turn fin F' N' S F N hsz
    induction hi generalizing ys with
    | nil => cases hy; exact .nil
    | cons k u _ ih =>
      cases hy with
      | cons h1 h2 =>
        obtain ⟨k', u', e, hr⟩ := h1
        cases e
        exact .cons hr (ih _ h2)
end
section
variable {prog : Program} {w : World} {A : Around} {E : Value → Shared → Prop} {s : Shared} {env : Env} {h₀ : Heap} {x : Str} {body : List Stmt} {Q : Flow → Shared → Prop}
theorem iter_range {r : Addr} {a b : Int} {t u v : Tok} {n : Nat} {m₀ : Str → Option Value} {news : List (Addr × Obj)} (J : Inv)
    (hh : A.handled = none) (hr : IsRange s.heap r a b 1 t u v) (hsm : Builtin.Range.small a b 1 = true) (hn : Builtin.Range.rangeSize a b 1 = ((n : Nat) : Int)) (F : Fr h₀ env.locals s.heap m₀) (N : News h₀ env.locals s.heap news) (hj : J m₀ news 0 m₀ news)
    (turn : ∀ i t' m₁ news₁ h tk I oI, i < n → J m₀ news i m₁ news₁ → (∀ p ∈ news₁, p.1 ≠ I) → Fr h₀ env.locals h (fun z => if z = x then some (.int (a + (i : Int)) t') else m₁ z) → News h₀ env.locals h ((I, oI) :: news₁) →
      wpAny (model prog w) A (execs body env) (TPost h₀ env.locals (J m₀ news (i + 1)) I oI { s with heap := h, toks := tk } Q) E { s with heap := h, toks := tk })
    (done : ∀ m₁ news₁ h tk, J m₀ news n m₁ news₁ → Fr h₀ env.locals h m₁ → News h₀ env.locals h news₁ → Q .next { s with heap := h, toks := tk }) :
    wpAny (model prog w) A (pyIter (.ref r)) (fun it s₂ => LoopAtV prog w A h₀ env x body Q E it s₂) E s := by
  refine wpAny_pyIter_range hr hsm ?_
  refine loop_of_walk (J m₀ news) (LCg.range_walks hh a n) (fun i h st => ⟨_, st⟩) rfl (by show IsRangeIter _ _ _ _ _; rw [hn]; simpa using Heap.get?_push_size _ rfl) F N hj ?_ done
  rintro i v m₁ news₁ h tk I oI hi ⟨t', rfl⟩ hJ off F' N'
  exact turn i t' m₁ news₁ h tk I oI hi hJ off F' N'
end

theorem byteArr_nat (l : List Nat) : byteArr (l.map Int.ofNat) = octs l := by
  simp [byteArr, octs]
theorem bytes_rule {prog : Program} {w : World} {A : Around} {E : Value → Shared → Prop} {s : Shared} {h₀ : Heap} {L D : Addr} {m : Str → Option Value} {news : List (Addr × Obj)} {vs : List Value} {l : List Nat} {Q : Value → Shared → Prop}
    (F : Fr h₀ L s.heap m) (N : News h₀ L s.heap news) (hh : A.handled = none) (hl : s.heap.IsList D vs.toArray) (hi : IntsAre vs (l.map Int.ofNat)) (hr : ∀ c ∈ l, c < 256) (hn : l.length ≤ 16777216)
    (h : ∀ h' t' k, Fr h₀ L h' m → News h₀ L h' news → Q (.bytes (octs l) t') { s with heap := h', toks := k }) : wpAny (model prog w) A (call (.type "bytes") [.ref D]) Q E s := by
  refine KBa.make_K F N hh hl hi ?_ (by simpa using hn) fun h' t' k F' N' _ => ?_
  · intro n hn
    obtain ⟨c, hc, rfl⟩ := List.mem_map.mp hn
    have := hr c hc
    exact ⟨Int.natCast_nonneg _, by show ((c : Nat) : Int) < 256; omega⟩
  · rw [byteArr_nat]; exact h h' t' k F' N'

theorem flat_ones {α : Type} (g : α → Nat) : ∀ l : List α, (l.map (fun a => [g a])).flatten = l.map g
  | [] => rfl
  | a :: l => by simp [flat_ones g l]
theorem sum_ones {α : Type} (g : α → Nat) : ∀ l : List α, ((l.map (fun a => [g a])).map (·.length)).sum = l.length
  | [] => rfl
  | a :: l => by simp only [List.map_cons, List.sum_cons, sum_ones g l]; simp; omega
theorem join_ones {prog : Program} {w : World} {A : Around} {E : Value → Shared → Prop} {s : Shared} {α : Type} {g : α → Nat} {l : List α} {D : Addr} {ys : List Value} {t : Tok} {Q : Value → Shared → Prop} (hl : s.heap.IsList D ys.toArray) (hy : All2 (fun a y => ∃ t, y = .str (tx [g a]) t) l ys) (hn : l.length ≤ 16777216)
    (h : ∀ t' k, Q (.str (tx (l.map g)) t') { s with toks := k }) : wpAny (model prog w) A (call (.builtin "str.join") [.str (PySem.Str.ofString "") t, .ref D]) Q E s := by
  refine join_rule (ls := l.map (fun a => [g a])) hl hy.strs (by rw [sum_ones]; exact hn) fun t' k => ?_
  rw [flat_ones]; exact h t' k

theorem comp_tx {prog : Program} {w : World} {A : Around} {E : Value → Shared → Prop} {s : Shared} {h₀ : Heap} {L : Addr} {m : Str → Option Value} {env : Env} {l : List Nat} {t : Tok} {elt : Expr} {x : Str} {scope : Scope} {cl : List (Str × Addr)} {Q : Value → Shared → Prop} {news : List (Addr × Obj)} (R : Nat → Value → Prop)
    (hh : A.handled = none) (F : Fr h₀ L s.heap m) (N : News h₀ L s.heap news) (hsz : l.length ≤ sizeLine)
    (turn : Turn prog w A h₀ L m env elt x scope cl s l (fun c v => ∃ u, v = .str ⟨#[c]⟩ u) R news)
    (fin : ∀ ys D h tk, All2 R l ys → Fr h₀ L h m → News h₀ L h ((D, LCg.lst ys) :: news) → LCg.Off1 D news → Q (.ref D) { s with heap := h, toks := tk }) :
    wpAny (model prog w) A (pyIter (.str (tx l) t)) (fun it s₂ => CompAt prog w A h₀ L m env elt x scope cl Q it s₂) E s :=
  comp_str hh F N (by simpa using hsz) turn fin

theorem sub_val {prog : Program} {w : World} {A : Around} {E : Value → Shared → Prop} {s : Shared} {Q : Value → Shared → Prop} {a b k : Int} {t u : Tok} (e : a - b = k) (h : ∀ t' tk, Q (.int k t') { s with toks := tk }) :
    wpAny (model prog w) A (binaryOp .Sub (.int a t) (.int b u)) Q E s := by
  subst e
  exact sub_int (h _ _)
end Mine

end
section
open PySem PySem.W PyProof.Rows
namespace Mine
def guardC (n c : Nat) : List Nat := if c = 92 then List.replicate (2 ^ n) 92 else if special c then List.replicate (2 ^ n - 1) 92 ++ [c] else [c]
def guardL (n : Nat) (l : List Nat) : List Nat := l.flatMap (guardC n)
theorem guard_zero (l : List Nat) : guardL 0 l = l := by
  induction l with
  | nil => rfl
  | cons c l ih =>
    show guardC 0 c ++ guardL 0 l = _
    rw [ih]
    unfold guardC
    by_cases h : c = 92
    · subst h; rfl
    · rw [if_neg h]
      split <;> rfl
theorem esc_rep (k : Nat) : esc (List.replicate k 92) = List.replicate (2 * k) 92 := by
  induction k with
  | zero => rfl
  | succ k ih =>
    rw [List.replicate_succ, esc_cons, ih]
    have : escC 92 = [92, 92] := by decide
    rw [this, show 2 * (k + 1) = 2 * k + 1 + 1 by omega, List.replicate_succ, List.replicate_succ]
    rfl
theorem guard_step (n : Nat) (l : List Nat) : esc (guardL n l) = guardL (n + 1) l := by
  induction l with
  | nil => rfl
  | cons c l ih =>
    show esc (guardC n c ++ guardL n l) = guardC (n + 1) c ++ guardL (n + 1) l
    rw [esc_append, ih]
    congr 1
    unfold guardC
    by_cases h : c = 92
    · rw [if_pos h, if_pos h, esc_rep]
      congr 1
      rw [Nat.pow_succ]; omega
    · rw [if_neg h, if_neg h]
      cases hs : special c
      · simp only [Bool.false_eq_true, if_false]
        show escC c ++ [] = [c]
        unfold escC; rw [hs]; rfl
      · simp only [if_true]
        rw [esc_append, esc_rep]
        have e : esc [c] = [92, c] := by
          show escC c ++ [] = _
          unfold escC; rw [hs]; rfl
        rw [e]
        have p : 1 ≤ 2 ^ n := Nat.one_le_two_pow
        have q : 2 ^ (n + 1) - 1 = 2 * (2 ^ n - 1) + 1 := by rw [Nat.pow_succ]; omega
        rw [q, List.replicate_succ']
        simp
theorem guardC_len {n c : Nat} (h : n ≤ 3) : (guardC n c).length ≤ 8 := by
  have h8 : 2 ^ n ≤ 8 := Nat.pow_le_pow_right (n := 2) (by decide) h
  unfold guardC
  split
  · simpa using h8
  · split
    · have : 1 ≤ 2 ^ n := Nat.one_le_two_pow
      simp; omega
    · simp
theorem guard_sum {n : Nat} (h : n ≤ 3) (l : List Nat) : ((l.map (guardC n)).map (·.length)).sum ≤ 8 * l.length := by
  induction l with
  | nil => simp
  | cons c l ih =>
    have := guardC_len (c := c) h
    simp only [List.map_cons, List.sum_cons, List.length_cons]
    omega
theorem guard_len {n : Nat} (h : n ≤ 3) (l : List Nat) : (guardL n l).length ≤ 8 * l.length := by
  have := guard_sum h l
  unfold guardL
  rw [List.length_flatMap]
  rw [List.map_map] at this
  exact this
theorem guardC_small {n c : Nat} (h : c < 256) : ∀ d ∈ guardC n c, d < 256 := by
  intro d hd
  unfold guardC at hd
  split at hd
  · have := List.eq_of_mem_replicate hd; omega
  · split at hd
    · rcases List.mem_append.mp hd with hd | hd
      · have := List.eq_of_mem_replicate hd; omega
      · simp at hd; omega
    · simp at hd; omega
theorem guard_small {n : Nat} {l : List Nat} (h : ∀ c ∈ l, c < 256) : ∀ d ∈ guardL n l, d < 256 := by
  intro d hd
  obtain ⟨c, hc, hdc⟩ := List.mem_flatMap.mp hd
  exact guardC_small (h c hc) d hdc
theorem cpsOf_octs {l : List Nat} (h : ∀ c ∈ l, c < 256) : cpsOf (octs l) = l := by
  unfold cpsOf octs
  show (l.map Nat.toUInt8).map UInt8.toNat = l
  rw [List.map_map]
  conv => rhs; rw [← List.map_id l]
  apply List.map_congr_left
  intro c hc
  have := h c hc
  show c.toUInt8.toNat = c
  simp
  omega
end Mine

end
section
open PySem PySem.W PyProof.Rows
namespace Mine
section
variable {α : Type} [DecidableEq α]
def prep (p : List α) : List (List α) → List (List α)
  | [] => [p]
  | x :: r => (p ++ x) :: r
/-- a list cut at what is sought, from the left -/
def cut (s : List α) : List α → Nat → List (List α)
  | [], _ => [[]]
  | c :: l, 0 => if s <+: (c :: l) then [] :: cut s l (s.length - 1) else prep [c] (cut s l 0)
  | _ :: l, k + 1 => cut s l k
theorem prep_prep (p q : List α) (ls : List (List α)) : prep p (prep q ls) = prep (p ++ q) ls := by
  cases ls <;> simp [prep]
theorem prep_nil {ls : List (List α)} (h : ls ≠ []) : prep [] ls = ls := by
  cases ls with
  | nil => exact absurd rfl h
  | cons x r => rfl
theorem prep_ne (p : List α) (ls : List (List α)) : prep p ls ≠ [] := by cases ls <;> simp [prep]
theorem cut_ne (s : List α) : ∀ (l : List α) (k : Nat), cut s l k ≠ []
  | [], _ => by simp [cut]
  | c :: l, 0 => by
    unfold cut
    split
    · simp
    · exact prep_ne _ _
  | _ :: l, k + 1 => by unfold cut; exact cut_ne s l k
theorem cut_skip (s : List α) : ∀ (l : List α) (k : Nat), cut s l k = cut s (l.drop k) 0
  | [], k => by simp [cut]
  | c :: l, 0 => rfl
  | c :: l, k + 1 => by
    show cut s l k = cut s (l.drop k) 0
    exact cut_skip s l k
theorem cut_hit {s l : List α} (hs : s ≠ []) (h : s <+: l) : cut s l 0 = [] :: cut s (l.drop s.length) 0 := by
  cases l with
  | nil => exact absurd (List.prefix_nil.mp h) hs
  | cons c t =>
    show (if s <+: (c :: t) then [] :: cut s t (s.length - 1) else prep [c] (cut s t 0)) = _
    rw [if_pos h, cut_skip]
    have : 0 < s.length := List.length_pos_iff.mpr hs
    obtain ⟨n, hn⟩ : ∃ n, s.length = n + 1 := ⟨s.length - 1, by omega⟩
    rw [hn]; rfl
theorem cut_miss {s t : List α} {c : α} (h : ¬ s <+: (c :: t)) : cut s (c :: t) 0 = prep [c] (cut s t 0) := by
  show (if s <+: (c :: t) then [] :: cut s t (s.length - 1) else prep [c] (cut s t 0)) = _
  rw [if_neg h]
theorem cut_run {s : List α} : ∀ (n : Nat) (l : List α), n ≤ l.length → (∀ k, k < n → ¬ s <+: l.drop k) → cut s l 0 = prep (l.take n) (cut s (l.drop n) 0)
  | 0, l, _, _ => by simp [prep_nil (cut_ne s l 0)]
  | n + 1, [], h, _ => by simp at h
  | n + 1, c :: t, h, hk => by
    rw [cut_miss (by simpa using hk 0 (by omega)), cut_run n t (by simpa using h) (fun k hk' => by simpa using hk (k + 1) (by omega)), prep_prep]
    rfl
theorem cut_end {s l : List α} (hs : s ≠ []) (h : ∀ k, ¬ s <+: l.drop k) : cut s l 0 = [l] := by
  rw [cut_run l.length l (Nat.le_refl _) (fun k _ => h k)]
  simp [cut, prep]

/-- the places of the cuts: leftmost, not overlapping, from a to f -/
def Chain (s l : List α) : Nat → List Nat → Nat → Prop
  | a, [], f => f = a
  | a, p :: r, f => a ≤ p ∧ s <+: l.drop p ∧ (∀ k, a ≤ k → k < p → ¬ s <+: l.drop k) ∧ Chain s l (p + s.length) r f
def partsL (l : List α) (w : Nat) : Nat → List Nat → List (List α)
  | a, [] => [l.drop a]
  | a, p :: r => (l.drop a).take (p - a) :: partsL l w (p + w) r
theorem cut_chain {s l : List α} (hs : s ≠ []) : ∀ (ps : List Nat) (a f : Nat), Chain s l a ps f → (∀ k, f ≤ k → ¬ s <+: l.drop k) → cut s (l.drop a) 0 = partsL l s.length a ps
  | [], a, f, h, hf => by
    have e : f = a := h
    subst e
    rw [cut_end hs (fun k => by rw [List.drop_drop]; exact hf _ (by omega))]
    rfl
  | p :: r, a, f, h, hf => by
    obtain ⟨h1, h2, h3, h4⟩ := h
    have hl : p ≤ l.length := by
      have := h2.length_le
      have hp : 0 < s.length := List.length_pos_iff.mpr hs
      rw [List.length_drop] at this
      omega
    have e : (l.drop a).drop (p - a) = l.drop p := by rw [List.drop_drop]; congr 1; omega
    rw [cut_run (p - a) (l.drop a) (by rw [List.length_drop]; omega) (fun k hk => by rw [List.drop_drop]; exact h3 _ (by omega) (by omega)), e, cut_hit hs h2, List.drop_drop, cut_chain hs r (p + s.length) f h4 hf]
    simp [partsL, prep]
theorem cut_map {β : Type} [DecidableEq β] (f : α → β) {s : List α} : ∀ (l : List α) (k : Nat), (∀ a ∈ s, ∀ b ∈ l, f a = f b → a = b) → cut (s.map f) (l.map f) k = (cut s l k).map (List.map f)
  | [], _, _ => by simp [cut]
  | c :: l, k + 1, h => by
    show cut (s.map f) (l.map f) k = (cut s l k).map (List.map f)
    exact cut_map f l k fun a ha b hb => h a ha b (List.mem_cons_of_mem _ hb)
  | c :: l, 0, h => by
    have key : ∀ (s l : List α), (∀ a ∈ s, ∀ b ∈ l, f a = f b → a = b) → (s.map f <+: l.map f ↔ s <+: l) := by
      intro s
      induction s with
      | nil => intro l _; simp
      | cons a s ih =>
        intro l hl
        cases l with
        | nil => simp
        | cons b l =>
          rw [List.map_cons, List.map_cons, List.cons_prefix_cons, List.cons_prefix_cons, ih l fun x hx y hy => hl x (List.mem_cons_of_mem _ hx) y (List.mem_cons_of_mem _ hy)]
          constructor
          · rintro ⟨e, r⟩; exact ⟨hl a (List.mem_cons_self ..) b (List.mem_cons_self ..) e, r⟩
          · rintro ⟨rfl, r⟩; exact ⟨rfl, r⟩
    have h' : ∀ a ∈ s, ∀ b ∈ l, f a = f b → a = b := fun a ha b hb => h a ha b (List.mem_cons_of_mem _ hb)
    by_cases hp : s <+: c :: l
    · have hp' : s.map f <+: f c :: l.map f := (key s (c :: l) h).mpr hp
      show (if s.map f <+: f c :: l.map f then [] :: cut (s.map f) (l.map f) ((s.map f).length - 1) else _) = (if s <+: c :: l then [] :: cut s l (s.length - 1) else _).map _
      rw [if_pos hp, if_pos hp', List.length_map, cut_map f l _ h']
      rfl
    · have hp' : ¬ s.map f <+: f c :: l.map f := fun q => hp ((key s (c :: l) h).mp q)
      rw [cut_miss hp]
      show cut (s.map f) (f c :: l.map f) 0 = _
      rw [cut_miss hp', cut_map f l _ h']
      cases cut s l 0 <;> simp [prep]
end

theorem esc_nil_iff {s : List Nat} : esc s = [] ↔ s = [] := by
  cases s with
  | nil => simp [esc]
  | cons c s =>
    rw [esc_cons]
    unfold escC
    split <;> simp
theorem escC_sp {c : Nat} (h : special c = true) : escC c = [92, c] := by unfold escC; rw [if_pos h]
theorem escC_no {c : Nat} (h : special c = false) : escC c = [c] := by unfold escC; rw [if_neg (by rw [h]; decide)]
theorem sp92 : special 92 = true := by decide
theorem esc_prefix : ∀ (s l : List Nat), (esc s <+: esc l ↔ s <+: l)
  | [], l => by simp [esc]
  | a :: s, [] => by
    rw [show esc [] = [] from rfl, List.prefix_nil, esc_nil_iff, List.prefix_nil]
  | a :: s, c :: l => by
    have ih := esc_prefix s l
    rw [esc_cons, esc_cons, List.cons_prefix_cons]
    cases ha : special a <;> cases hc : special c
    · rw [escC_no ha, escC_no hc]
      simp only [List.cons_append, List.nil_append, List.cons_prefix_cons, ih]
    · rw [escC_no ha, escC_sp hc]
      simp only [List.cons_append, List.nil_append, List.cons_prefix_cons]
      constructor
      · rintro ⟨rfl, _⟩; rw [sp92] at ha; cases ha
      · rintro ⟨rfl, _⟩; rw [hc] at ha; cases ha
    · rw [escC_sp ha, escC_no hc]
      simp only [List.cons_append, List.nil_append, List.cons_prefix_cons]
      constructor
      · rintro ⟨rfl, _⟩; rw [sp92] at hc; cases hc
      · rintro ⟨rfl, _⟩; rw [hc] at ha; cases ha
    · rw [escC_sp ha, escC_sp hc]
      simp only [List.cons_append, List.nil_append, List.cons_prefix_cons, ih, true_and]
theorem esc_half : ∀ (s : List Nat) (c : Nat) (l : List Nat), s ≠ [] → special c = true → esc s <+: c :: esc l → s <+: c :: l
  | [], _, _, h, _, _ => absurd rfl h
  | a :: s, c, l, _, hc, hp => by
    rw [esc_cons] at hp
    cases ha : special a
    · rw [escC_no ha, List.cons_append, List.cons_prefix_cons] at hp
      obtain ⟨rfl, _⟩ := hp
      rw [hc] at ha; cases ha
    · rw [escC_sp ha, List.cons_append, List.cons_prefix_cons] at hp
      obtain ⟨rfl, hp⟩ := hp
      simp only [List.cons_append, List.nil_append] at hp
      cases l with
      | nil => simp [esc] at hp
      | cons d l =>
        rw [esc_cons] at hp
        cases hd : special d
        · rw [escC_no hd, List.cons_append, List.cons_prefix_cons] at hp
          obtain ⟨rfl, _⟩ := hp
          rw [ha] at hd; cases hd
        · rw [escC_sp hd, List.cons_append, List.cons_prefix_cons] at hp
          obtain ⟨rfl, hp⟩ := hp
          simp only [List.cons_append, List.nil_append] at hp
          rw [List.cons_prefix_cons]
          refine ⟨rfl, ?_⟩
          cases s with
          | nil => simp
          | cons b s => exact esc_half (b :: s) d l (by simp) hd hp
theorem map_prep (p : List Nat) {ls : List (List Nat)} (h : ls ≠ []) : (prep p ls).map esc = prep (esc p) (ls.map esc) := by
  cases ls with
  | nil => exact absurd rfl h
  | cons x r => simp [prep, esc_append]
theorem cut_esc {s : List Nat} (hs : s ≠ []) (l : List Nat) : cut (esc s) (esc l) 0 = (cut s l 0).map esc := by
  have hs' : esc s ≠ [] := fun h => hs (esc_nil_iff.mp h)
  generalize hn : l.length = n
  induction n using Nat.strongRecOn generalizing l with
  | _ n ih =>
    by_cases hp : s <+: l
    · obtain ⟨t, rfl⟩ := hp
      have h1 : esc s <+: esc (s ++ t) := (esc_prefix _ _).mpr ⟨t, rfl⟩
      rw [cut_hit hs' h1, cut_hit hs ⟨t, rfl⟩, esc_append, List.drop_left, List.drop_left, ih t.length (by
        have : 0 < s.length := List.length_pos_iff.mpr hs
        rw [← hn, List.length_append]; omega) t rfl]
      rfl
    · have h1 : ¬ esc s <+: esc l := fun q => hp ((esc_prefix _ _).mp q)
      cases l with
      | nil => simp [cut, esc]
      | cons c t =>
        have iht := ih t.length (by rw [← hn]; simp) t rfl
        rw [cut_miss hp, map_prep _ (cut_ne s t 0), ← iht]
        rw [esc_cons] at h1 ⊢
        cases hc : special c
        · rw [escC_no hc, List.cons_append, List.nil_append] at h1 ⊢
          rw [cut_miss h1]
          congr 1
          show [c] = escC c ++ []
          rw [escC_no hc]; rfl
        · rw [escC_sp hc] at h1 ⊢
          simp only [List.cons_append, List.nil_append] at h1 ⊢
          rw [cut_miss h1, cut_miss (fun q => hp (esc_half s c t hs hc q)), prep_prep]
          congr 1
          show [92] ++ [c] = escC c ++ []
          rw [escC_sp hc]; rfl
theorem esc_glue (n : List Nat) : ∀ ps : List (List Nat), esc (glue n ps) = glue (esc n) (ps.map esc)
  | [] => rfl
  | [x] => rfl
  | x :: y :: r => by
    show esc (x ++ n ++ glue n (y :: r)) = esc x ++ esc n ++ glue (esc n) ((y :: r).map esc)
    rw [esc_append, esc_append, esc_glue n (y :: r)]
end Mine

end
section
open PySem PySem.W PyProof.Rows
namespace Mine
theorem runs_toks {M : Model} {Γ : Ctx} {p : Pos} {t : Sem PySem.Fin} {fs : List Frame} {s : Shared} {e : End} {s' : Shared} (h : Runs M Γ p t fs s e s') : s.toks ≤ s'.toks := by
  induction h
  all_goals first | assumption | exact Nat.le_refl _ | (simp only [Shared.setGen] at *; omega) | omega
theorem wakes_toks {M : Model} {Γ : Ctx} {p : Pos} {g : Nat} {r : Resume} {s : Shared} {res : GenResult} {s' : Shared} (h : Wakes M Γ p g r s res s') : s.toks ≤ s'.toks := by
  unfold Wakes at h
  split at h
  · exact h.elim
  · split at h
    · obtain ⟨e₁, s₁, hr, _, _, rfl⟩ := h
      have := runs_toks hr
      exact this
    · rw [h.2]; exact Nat.le_refl _
    · rw [h.2]; exact Nat.le_refl _
  · obtain ⟨e₁, s₁, hr, _, _, rfl⟩ := h
    have := runs_toks hr
    exact this
  · rw [h.2]; exact Nat.le_refl _
  · rw [h.2]; exact Nat.le_refl _
theorem wp_toks {α : Type} {M : Model} {Γ : Ctx} {n : Nat} (t : Sem α) {Q : α → Pos → Shared → Prop} {E : Value → Pos → Shared → Prop} (p : Pos) (s : Shared) (hn : n ≤ s.toks)
    (h : Sem.wp M Γ t (fun a p' s' => n ≤ s'.toks → Q a p' s') (fun e p' s' => n ≤ s'.toks → E e p' s') p s) : Sem.wp M Γ t Q E p s := by
  induction t generalizing p s with
  | pure a => exact h hn
  | raise e => exact h hn
  | unsupported _ => exact h
  | finish _ => exact h
  | rule _ k ih => exact ih () _ _ hn h
  | «at» _ k ih => exact ih () _ _ hn h
  | load a _ k ih => obtain ⟨o, ho, h⟩ := h; exact ⟨o, ho, ih o _ _ hn h⟩
  | update a _ f k ih => exact ⟨h.1, ih () _ _ hn h.2⟩
  | alloc o k ih => exact ih _ _ _ hn h
  | loadIfAlive a k ih => exact ih _ _ _ hn h
  | point _ k ih => exact ih () _ _ hn h
  | register _ _ _ => exact h
  | fresh k ih => exact ih _ _ _ (Nat.le_succ_of_le hn) h
  | ask k ih => exact ih _ _ _ hn h
  | choose _ _ k ih => exact ⟨h.1, ih _ _ _ hn h.2⟩
  | os _ _ k ih => exact ih _ _ _ hn h
  | call c hd g l k ih =>
    obtain ⟨r, s', hr, h⟩ := h
    exact ⟨r, s', hr, ih r _ _ (Nat.le_trans hn (runs_toks hr)) h⟩
  | handled _ k ih => exact ih _ _ _ hn h
  | newGen _ k ih => exact ih _ _ _ hn h
  | genState _ k ih => obtain ⟨st, hs, h⟩ := h; exact ⟨st, hs, ih _ _ _ hn h⟩
  | resume _ _ _ k ih =>
    obtain ⟨res, s', hr, h⟩ := h
    exact ⟨res, s', hr, ih res _ _ (Nat.le_trans hn (wakes_toks hr)) h⟩
  | yield _ _ _ _ _ => exact h
  | stack k ih => exact ih _ _ _ hn h
  | fork _ _ _ => exact h
  | thread k ih => exact ih _ _ _ hn h
  | await _ _ _ _ _ _ => exact h
/-- the count of tokens never falls -/
theorem wpAny_toks {α : Type} {M : Model} {A : Around} {t : Sem α} {Q : α → Shared → Prop} {E : Value → Shared → Prop} {s : Shared}
    (h : wpAny M A t (fun a s' => s.toks ≤ s'.toks → Q a s') E s) : wpAny M A t Q E s := fun Γ p hΓ => by
  refine wp_toks (n := s.toks) t p s (Nat.le_refl _) ?_
  exact Sem.wp_mono M Γ t (fun _ _ _ h => h) (fun (e : Value) (_ : Pos) (s' : Shared) (h : E e s') (_ : s.toks ≤ s'.toks) => h) p s (h Γ p hΓ)
end Mine

end
section
open PySem PySem.W PyProof.Rows PySem.Spec PySem.Calls
namespace Mine
/-- an end within a comprehension: the three objects of its own stand, the ledger may have grown -/
def GEnd (h₀ : Heap) (L : Addr) (m : Str → Option Value) (s₁ : Shared) (I : Addr) (oI : Obj) (C D : Addr) (oD : Obj) (K : List (Addr × Obj) → Nat → Prop) (s₂ : Shared) : Prop :=
  ∃ h' tk oC m' news', s₂ = { s₁ with heap := h', toks := tk } ∧ Fr h₀ L h' m ∧ News h₀ L h' ((I, oI) :: (C, oC) :: (D, oD) :: news') ∧ LCg.Off3 I C D news' ∧ LCg.NsObj oC m' ∧ K news' tk
theorem GEnd.mk' {h₀ h' : Heap} {L : Addr} {m : Str → Option Value} {s₁ : Shared} {I C D : Addr} {oI oC oD : Obj} {K : List (Addr × Obj) → Nat → Prop} {tk : Nat} {m' : Str → Option Value} {news' all : List (Addr × Obj)} (F : Fr h₀ L h' m) (N : News h₀ L h' all)
    (sub : ∀ p ∈ (I, oI) :: (C, oC) :: (D, oD) :: news', p ∈ all) (off : LCg.Off3 I C D news') (hC : LCg.NsObj oC m') (k : K news' tk) : GEnd h₀ L m s₁ I oI C D oD K { s₁ with heap := h', toks := tk } :=
  ⟨h', tk, oC, m', news', rfl, F, fun p hp => N p (sub p hp), off, hC, k⟩

abbrev testsOf (ifs : List Expr) (env : Env) : Sem Bool := forIn ifs true fun c r => if r = true then do let ok ← isTrue c env (eval c env); pure (ForInStep.yield ok) else pure (ForInStep.yield r)

section
variable {prog : Program} {w : World} {A : Around} {E : Value → Shared → Prop} {s : Shared} {h₀ : Heap} {L : Addr} {m : Str → Option Value} {env : Env}

abbrev GTurn (prog : Program) (w : World) (A : Around) (h₀ : Heap) (L : Addr) (m : Str → Option Value) (env : Env) (elt target : Expr) (ifs : List Expr) (scope : Scope) (cl : List (Str × Addr)) (s : Shared) (n : Nat) (P : Nat → Value → Prop) (J : Nat → List Value → List (Addr × Obj) → Nat → Prop) : Prop :=
  ∀ (i : Nat) (v : Value) (ys : List Value) (news : List (Addr × Obj)) (I : Addr) (oI : Obj) (C : Addr) (oC : Obj) (D : Addr) (m' : Str → Option Value) (h : Heap) (t₀ tk : Nat) (E' : Value → Shared → Prop), i < n → P i v → J i ys news t₀ → t₀ ≤ tk → LCg.NsObj oC m' → Fr h₀ L h m → News h₀ L h ((I, oI) :: (C, oC) :: (D, LCg.lst ys) :: news) → LCg.Off3 I C D news → ((@Ne Nat I C) ∧ (@Ne Nat I D) ∧ (@Ne Nat C D)) → C ≠ L →
    wpAny (model prog w) A (assign target (compEnvC scope cl C env) v) (fun _ s₃ => wpAny (model prog w) A (testsOf ifs (compEnvC scope cl C env)) (fun ok s₄ =>
      if ok = true then wpAny (model prog w) A (eval elt (compEnvC scope cl C env)) (fun y s₅ => GEnd h₀ L m { s with heap := h, toks := tk } I oI C D (LCg.lst ys) (fun news' tk' => J (i + 1) (ys ++ [y]) news' tk') s₅) E' s₄
      else GEnd h₀ L m { s with heap := h, toks := tk } I oI C D (LCg.lst ys) (fun news' tk' => J (i + 1) ys news' tk') s₄) E' s₃) E' { s with heap := h, toks := tk }

theorem block_G {elt target iter : Expr} {ifs : List Expr} {scope : Scope} {cl : List (Str × Addr)} {pos : Pos} {I : Addr} {fp : List Addr} {n : Nat} {P : Nat → Value → Prop} {St : Nat → Heap → Prop} {S : List (Addr × Obj) → Prop} {news : List (Addr × Obj)} {RR : Value → Addr → Result → Shared → Prop}
    (J : Nat → List Value → List (Addr × Obj) → Nat → Prop)
    (W : Walks prog w A I fp [I] n P St) (hsz : n ≤ sizeLine) (hIo : ∀ i h, St i h → ∃ o, h.get? I = some o)
    (hSt : ∀ i h h' o nw, St i h → h.get? I = some o → h'.get? I = some o → (∀ b o, h₀.get? b = some o → h'.get? b = some o) → News h₀ L h' nw → S nw → St i h')
    (hJS : ∀ i ys nw t, J i ys nw t → S nw) (hJl : ∀ i ys nw t, J i ys nw t → ys.length ≤ i) (hJt : ∀ i ys nw t t', J i ys nw t → t ≤ t' → J i ys nw t')
    (hcell : ∀ y ∈ scope.names, y.2 ≠ .cell) (hkind : scope.kind = .function) (hst : St 0 s.heap) (hfp : ∀ b ∈ fp, b < s.heap.objs.size)
    (F : Fr h₀ L s.heap m) (N : News h₀ L s.heap news) (hIL : L ≠ I) (hI₀ : h₀.get? I = none) (off : ∀ p ∈ news, p.1 ≠ I) (hJ : J 0 [] news s.toks)
    (turn : GTurn prog w A h₀ L m env elt target ifs scope cl s n P J) (ht : ∀ v, letOwnedTupleGo target (.ref I) v = pure ())
    (hRR : ∀ D C h tk m' ys news', Fr h₀ L h m → News h₀ L h ((D, LCg.lst ys) :: news') → LCg.Off1 D news' → h.Ns C m' → h₀.get? C = none → C ≠ L → C ≠ D → (∀ p ∈ news', p.1 ≠ C) → J n ys news' tk → RR (.ref D) C (.ok .next) { s with heap := h, toks := tk }) :
    wpAny (model prog w) A (newList []) (fun acc s₃ => wpAny (model prog w) A (newFunctionEnv scope env.globals cl [] env.qual none .none (some env)) (fun cenv s₄ =>
      codeAny (model prog w) A (.compStart (.ListComp elt [⟨target, iter, ifs, 0⟩] scope pos) 0 (.ref I) acc { cenv with scope := relabel scope env }) (RR acc cenv.locals) s₄) E s₃) E s := by
  refine wpAny_newObj_type (wpAny_newFunctionEnv hcell (by intro y hy; simp at hy) (fun h₁ hns₁ hsb₁ => ?_) hkind)
  dsimp only at hns₁ hsb₁ ⊢
  generalize hH2 : s.heap.push { cls := .type "list", dict := none, data := .seq ([] : List Value).toArray } = H2 at hns₁ hsb₁ ⊢
  have hC : H2.objs.size = s.heap.objs.size + 1 := by rw [← hH2, Heap.size_push]
  generalize hD : s.heap.objs.size = D at *
  generalize hCC : H2.objs.size = C at *
  have hDC : D ≠ C := by rw [hC]; exact Nat.ne_of_lt (Nat.lt_succ_self _)
  have hIf : I ∈ fp := W.sub I (List.mem_singleton.mpr rfl)
  have lt : ∀ b, b < D → b ≠ C ∧ b ≠ D := fun b hb => ⟨by rw [hC]; exact Nat.ne_of_lt (Nat.lt_succ_of_lt hb), Nat.ne_of_lt hb⟩
  have hgone : ∀ a, D ≤ a → h₀.get? a = none := fun a ha => by
    cases e : h₀.get? a with
    | none => rfl
    | some o => have := Heap.lt_size (F.keep a o e); rw [hD] at this; exact absurd this (Nat.not_lt.mpr ha)
  have hD₀ := hgone D (Nat.le_refl _)
  have hC₀ := hgone C (by rw [hC]; exact Nat.le_succ _)
  have hLlt : L < D := by rw [← hD]; exact F.ns.lt
  have hDL : D ≠ L := Ne.symm (lt L hLlt).2
  have hCL : C ≠ L := Ne.symm (lt L hLlt).1
  have hIC : I ≠ C := (lt I (hfp I hIf)).1
  have hID : I ≠ D := (lt I (hfp I hIf)).2
  have hCf : C ∉ fp := fun q => (lt C (hfp C q)).1 rfl
  have hDf : D ∉ fp := fun q => Nat.lt_irrefl _ (hfp D q)
  have old : ∀ b o, s.heap.get? b = some o → h₁.get? b = some o := fun b o e => by
    have hb : b < D := by rw [← hD]; exact Heap.lt_size e
    exact hsb₁.extBut b o (lt b hb).1 (Heap.get?_push_of_some _ (hH2 ▸ Heap.get?_push_of_some _ e))
  have hacc : h₁.get? D = some (LCg.lst []) := hsb₁.extBut _ _ hDC (Heap.get?_push_of_some _ (by rw [← hH2, ← hD]; exact Heap.get?_push_size _ rfl))
  obtain ⟨oC₀, heC₀, hoC₀⟩ := LCg.ns_obj hns₁
  have loop : ∀ s₃ : Shared, s₃ = { s with heap := h₁, toks := s.toks + ([] : List (Str × Value)).length } →
      codeAny (model prog w) A (.compLoop (.ListComp elt [⟨target, iter, ifs, 0⟩] scope pos) 0 (.ref I) (.ref D) (compEnvC scope cl C env)) (RR (.ref D) C) s₃ := by
    rintro s₃ rfl
    refine codeAny_compLoop_tests
      (fun k s' => ∃ h' tk i ys m' news' oC, s' = { s with heap := h', toks := tk } ∧ i ≤ n ∧ k = n + 1 - i ∧ St i h' ∧ Fr h₀ L h' m ∧ LCg.NsObj oC m' ∧ News h₀ L h' ((C, oC) :: (D, LCg.lst ys) :: news') ∧
        LCg.Off3 I C D news' ∧ J i ys news' tk) ?_ (n + 1)
      ⟨h₁, _, 0, [], _, news, oC₀, rfl, Nat.zero_le _, rfl, W.frame _ _ _ hst (fun b _ o e => old b o e), F.keeps old, hoC₀, ?_, ?_, hJ⟩ ht
    · rintro k s' ⟨h', tk, i, ys, m', news', oC, rfl, hi, rfl, hst', F', hC', N', off', hJ'⟩
      have off3 := off'.mem
      have hN : ∀ h₂ : Heap, (∀ b o, b ∉ [I] → h'.get? b = some o → h₂.get? b = some o) → Fr h₀ L h₂ m ∧ News h₀ L h₂ ((C, oC) :: (D, LCg.lst ys) :: news') := fun h₂ hk₂ => by
        refine ⟨LCg.fr_but F' hk₂ hIL hI₀, LCg.news_but N' hk₂ fun p hp => ?_⟩
        rcases List.mem_cons.mp hp with rfl | hp
        · exact Ne.symm hIC
        · rcases List.mem_cons.mp hp with rfl | hp
          · exact Ne.symm hID
          · exact (off3 p hp).1
      by_cases hlt : i < n
      · refine wpAny_toks (W.item i _ _ _ hlt hst' fun v h₂ tk₂ hPv hst₂ hk₂ hle => ?_)
        obtain ⟨F₂, N₂⟩ := hN h₂ hk₂
        obtain ⟨oI, heI⟩ := hIo _ _ hst₂
        have N₂' : News h₀ L h₂ ((I, oI) :: (C, oC) :: (D, LCg.lst ys) :: news') := fun p hp => by
          rcases List.mem_cons.mp hp with rfl | hp
          · exact ⟨heI, Ne.symm hIL, hI₀⟩
          · exact N₂ p hp
        have stays : ∀ h₃ news₃ oC₃ i' ys', News h₀ L h₃ ((I, oI) :: (C, oC₃) :: (D, LCg.lst ys) :: news₃) → Fr h₀ L h₃ m → (∃ t, J i' ys' news₃ t) → St (i + 1) h₃ := fun h₃ news₃ oC₃ i' ys' N₃ F₃ hJ₃ => by
          obtain ⟨t, hJ₃⟩ := hJ₃
          exact hSt _ _ _ _ _ hst₂ heI (N₃ _ (List.mem_cons_self ..)).1 F₃.keep (fun p hp => N₃ p (List.mem_cons_of_mem _ (List.mem_cons_of_mem _ (List.mem_cons_of_mem _ hp)))) (hJS _ _ _ _ hJ₃)
        refine wpAny_mono (turn i v ys news' I oI C oC D m' h₂ tk tk₂ _ hlt hPv hJ' hle hC' F₂ N₂' off' ⟨hIC, hID, Ne.symm hDC⟩ hCL) (fun _ s₃ h₃ => ?_) fun _ _ e => e
        refine wpAny_mono h₃ (fun ok s₄ h₄ => ?_) fun _ _ e => e
        cases ok with
        | false =>
          simp only [Bool.false_eq_true, if_false] at h₄ ⊢
          obtain ⟨h₅, tk₅, oC₅, m₅, news₅, rfl, F₅, N₅, off₅, hC₅, hJ₅⟩ := h₄
          exact ⟨n + 1 - (i + 1), by omega, h₅, tk₅, i + 1, ys, m₅, news₅, oC₅, rfl, hlt, rfl, stays _ _ _ _ _ N₅ F₅ ⟨_, hJ₅⟩, F₅, hC₅, fun p hp => N₅ p (List.mem_cons_of_mem _ hp), off₅, hJ₅⟩
        | true =>
          simp only [if_true] at h₄ ⊢
          refine wpAny_mono h₄ (fun y s₅ h₅ => ?_) fun _ _ e => e
          obtain ⟨h₅, tk₅, oC₅, m₅, news₅, rfl, F₅, N₅, off₅, hC₅, hJ₅⟩ := h₅
          have zD := (N₅ (D, LCg.lst ys) (List.mem_cons_of_mem _ (List.mem_cons_of_mem _ (List.mem_cons_self ..)))).1
          have hst₅ := stays _ _ _ _ _ N₅ F₅ ⟨_, hJ₅⟩
          refine append_at (hsz := by show ys.toArray.size ≤ sizeLine; rw [List.size_toArray]; have := hJl _ _ _ _ hJ'; omega) zD fun h₆ hs₆ hD₆ => ?_
          have o5 := off₅.mem
          refine ⟨n + 1 - (i + 1), by omega, h₆, tk₅, i + 1, ys ++ [y], m₅, news₅, oC₅, rfl, hlt, rfl, W.frame _ _ _ hst₅ (fun b hb o e => hs₆.extBut b o (fun q => hDf (q ▸ hb)) e), F₅.change hs₆ hDL hD₀, hC₅, fun p hp => ?_, off₅, hJ₅⟩
          rcases List.mem_cons.mp hp with rfl | hp
          · have z := N₅ (C, oC₅) (List.mem_cons_of_mem _ (List.mem_cons_self ..))
            exact ⟨hs₆.extBut _ _ (Ne.symm hDC) z.1, z.2⟩
          · rcases List.mem_cons.mp hp with rfl | hp
            · exact ⟨hD₆.trans (congrArg some (LCg.lst_snoc ys y)), hDL, hD₀⟩
            · have z := N₅ p (List.mem_cons_of_mem _ (List.mem_cons_of_mem _ (List.mem_cons_of_mem _ hp)))
              exact ⟨hs₆.extBut _ _ (o5 p hp).2.2 z.1, z.2⟩
      · obtain rfl : i = n := Nat.le_antisymm hi (Nat.not_lt.mp hlt)
        refine wpAny_toks (W.done _ _ _ hst' fun h₂ tk₂ hk₂ hle => ?_)
        obtain ⟨F₂, N₂⟩ := hN h₂ hk₂
        exact hRR D C h₂ tk₂ m' ys news' F₂ (fun p hp => N₂ p (List.mem_cons_of_mem _ hp)) off'.one (hC'.ns (N₂ _ (List.mem_cons_self ..)).1) hC₀ hCL (Ne.symm hDC) (fun p hp => (off3 p hp).2.1) (hJt _ _ _ _ _ hJ' hle)
    · intro p hp
      rcases List.mem_cons.mp hp with rfl | hp
      · exact ⟨heC₀, hCL, hC₀⟩
      · rcases List.mem_cons.mp hp with rfl | hp
        · exact ⟨hacc, hDL, hD₀⟩
        · exact ⟨old _ _ (N p hp).1, (N p hp).2⟩
    · exact LCg.Off3.of fun p hp => by
        have hb : p.1 < D := by rw [← hD]; exact Heap.lt_size (N p hp).1
        exact ⟨off p hp, (lt _ hb).1, (lt _ hb).2⟩
  exact codeAny_compStart_list (loop _ rfl) (W.self 0 _ _ _ (W.frame _ _ _ hst fun b _ o e => old b o e) (loop _ rfl))
end
end Mine

end
section
open PySem PySem.W PyProof.Rows PySem.Spec PySem.Calls
namespace Mine
section
variable {prog : Program} {w : World} {A : Around} {E : Value → Shared → Prop} {s : Shared} {h₀ : Heap} {L : Addr} {m : Str → Option Value} {env : Env}

def CompAtG (prog : Program) (w : World) (A : Around) (h₀ : Heap) (L : Addr) (m : Str → Option Value) (env : Env) (elt target : Expr) (ifs : List Expr) (scope : Scope) (cl : List (Str × Addr)) (Q : Value → Shared → Prop) (it : Value) (s : Shared) : Prop :=
  ∃ (I : Addr) (fp : List Addr) (n : Nat) (P : Nat → Value → Prop) (St : Nat → Heap → Prop) (S : List (Addr × Obj) → Prop) (news : List (Addr × Obj)) (J : Nat → List Value → List (Addr × Obj) → Nat → Prop), it = .ref I ∧ Walks prog w A I fp [I] n P St ∧ n ≤ sizeLine ∧ (∀ i h, St i h → ∃ o, h.get? I = some o) ∧
    (∀ i h h' o nw, St i h → h.get? I = some o → h'.get? I = some o → (∀ b o, h₀.get? b = some o → h'.get? b = some o) → News h₀ L h' nw → S nw → St i h') ∧
    (∀ i ys nw t, J i ys nw t → S nw) ∧ (∀ i ys nw t, J i ys nw t → ys.length ≤ i) ∧ (∀ i ys nw t t', J i ys nw t → t ≤ t' → J i ys nw t') ∧
    St 0 s.heap ∧ (∀ b ∈ fp, b < s.heap.objs.size) ∧ Fr h₀ L s.heap m ∧ News h₀ L s.heap news ∧ L ≠ I ∧ h₀.get? I = none ∧ (∀ p ∈ news, p.1 ≠ I) ∧ J 0 [] news s.toks ∧
    GTurn prog w A h₀ L m env elt target ifs scope cl s n P J ∧ (∀ v, letOwnedTupleGo target (.ref I) v = pure ()) ∧
    ∀ D h tk ys news', J n ys news' tk → Fr h₀ L h m → News h₀ L h ((D, LCg.lst ys) :: news') → LCg.Off1 D news' → Q (.ref D) { s with heap := h, toks := tk }

theorem comp_stopG {elt target iter : Expr} {ifs : List Expr} {scope : Scope} {cl : List (Str × Addr)} {pos : Pos} {Q : Value → Shared → Prop} (_F₀ : Fr h₀ L s.heap m)
    (hclos : closureFor scope env = pure cl) (hcell : ∀ y ∈ scope.names, y.2 ≠ .cell) (hkind : scope.kind = .function)
    (hnames : ∀ y ∈ scope.names, y.2 = .local → scope.names.lookup y.1 = some .local)
    (h : wpAny (model prog w) A (eval iter env) (fun xv s₁ => Stop (wpAny (model prog w) A (pyIter xv) (fun it s₂ => CompAtG prog w A h₀ L m env elt target ifs scope cl Q it s₂) E s₁)) E s)
    (hs : ∀ x, foldedSetIterable iter env x = pure x := by intro _; rfl) :
    wpAny (model prog w) A (eval (.ListComp elt [⟨target, iter, ifs, 0⟩] scope pos) env) Q E s := by
  rw [eval_ListComp]
  refine wpAny_comprehension_free (use := none) rfl hs hclos hkind hnames (wpAny_mono h (fun xv s₁ h₁ => wpAny_mono h₁ (fun it s₂ h₂ => ?_) fun _ _ e => e) fun _ _ e => e)
  obtain ⟨I, fp, n, P, St, S, news, J, rfl, W, hsz, hIo, hSt, hJS, hJl, hJt, hst, hfp, F, N, hIL, hI₀, off, hJ, turn, ht, fin⟩ := h₂
  refine block_G J W hsz hIo hSt hJS hJl hJt hcell hkind hst hfp F N hIL hI₀ off hJ turn ht ?_
  intro D C h tk m' ys news' F' N' o1 hn hC₀ hCL hCD offC hJn
  refine ⟨m', hn, fun h'' hs'' => fin D h'' tk ys news' hJn (F'.change hs'' hCL hC₀) (fun p hp => ?_) o1⟩
  refine ⟨hs''.extBut _ _ ?_ (N' p hp).1, (N' p hp).2⟩
  rcases List.mem_cons.mp hp with rfl | hp
  · exact Ne.symm hCD
  · exact offC p hp

/-- a turn whose target is one name -/
abbrev NTurn (prog : Program) (w : World) (A : Around) (h₀ : Heap) (L : Addr) (m : Str → Option Value) (env : Env) (elt : Expr) (x : Str) (ifs : List Expr) (scope : Scope) (cl : List (Str × Addr)) (s : Shared) (n : Nat) (P : Nat → Value → Prop) (J : Nat → List Value → List (Addr × Obj) → Nat → Prop) : Prop :=
  ∀ (i : Nat) (v : Value) (ys : List Value) (news : List (Addr × Obj)) (I : Addr) (oI : Obj) (C : Addr) (oC : Obj) (D : Addr) (m₂ : Str → Option Value) (h : Heap) (t₀ tk : Nat) (E' : Value → Shared → Prop), i < n → P i v → J i ys news t₀ → t₀ ≤ tk → LCg.NsObj oC m₂ → m₂ x = some v → Fr h₀ L h m → News h₀ L h ((I, oI) :: (C, oC) :: (D, LCg.lst ys) :: news) → LCg.Off3 I C D news → ((@Ne Nat I C) ∧ (@Ne Nat I D) ∧ (@Ne Nat C D)) →
    wpAny (model prog w) A (testsOf ifs (compEnvC scope cl C env)) (fun ok s₄ =>
      if ok = true then wpAny (model prog w) A (eval elt (compEnvC scope cl C env)) (fun y s₅ => GEnd h₀ L m { s with heap := h, toks := tk } I oI C D (LCg.lst ys) (fun news' tk' => J (i + 1) (ys ++ [y]) news' tk') s₅) E' s₄
      else GEnd h₀ L m { s with heap := h, toks := tk } I oI C D (LCg.lst ys) (fun news' tk' => J (i + 1) ys news' tk') s₄) E' { s with heap := h, toks := tk }

theorem gturn_name {elt : Expr} {x : Str} {px : Pos} {ifs : List Expr} {scope : Scope} {cl : List (Str × Addr)} {n : Nat} {P : Nat → Value → Prop} {J : Nat → List Value → List (Addr × Obj) → Nat → Prop}
    (hx : scope.names.lookup x = some .local) (hkind : scope.kind = .function) (turn : NTurn prog w A h₀ L m env elt x ifs scope cl s n P J) : GTurn prog w A h₀ L m env elt (.Name x px) ifs scope cl s n P J := by
  intro i v ys news I oI C oC D m' h t₀ tk E' hi hP hJ hle hC F N off ne hCL
  have zC := N (C, oC) (List.mem_cons_of_mem _ (List.mem_cons_self ..))
  have o3 := off.mem
  refine wpAny_assign_Name (wpAny_storeName_local (lookup_relabel_local hx) (hC.ns zC.1) (fun h₃ hn₃ hs₃ => ?_) (by simp [compEnvC, relabel, hkind]))
  obtain ⟨oC', heC', hoC'⟩ := LCg.ns_obj hn₃
  have F₃ : Fr h₀ L h₃ m := F.change hs₃ hCL zC.2.2
  have N₃ : News h₀ L h₃ ((I, oI) :: (C, oC') :: (D, LCg.lst ys) :: news) := fun p hp => by
    rcases List.mem_cons.mp hp with rfl | hp
    · have z := N (I, oI) (List.mem_cons_self ..)
      exact ⟨hs₃.extBut _ _ ne.1 z.1, z.2⟩
    · rcases List.mem_cons.mp hp with rfl | hp
      · exact ⟨heC', zC.2⟩
      · have z := N p (List.mem_cons_of_mem _ (List.mem_cons_of_mem _ hp))
        refine ⟨hs₃.extBut _ _ ?_ z.1, z.2⟩
        rcases List.mem_cons.mp hp with rfl | hp
        · exact Ne.symm ne.2.2
        · exact (o3 p hp).2.1
  refine wpAny_mono (turn i v ys news I oI C oC' D _ h₃ t₀ (tk + 1) E' hi hP hJ (Nat.le_succ_of_le hle) hoC' (by simp) F₃ N₃ off ne) (fun ok s₄ h₄ => ?_) fun _ _ e => e
  cases ok with
  | false => exact h₄
  | true => exact h₄

theorem compG_walk {I : Addr} {o : Obj} {elt target : Expr} {ifs : List Expr} {scope : Scope} {cl : List (Str × Addr)} {Q : Value → Shared → Prop} {n : Nat} {P : Nat → Value → Prop} {St : Nat → Heap → Prop} {news : List (Addr × Obj)} (J : Nat → List Value → List (Addr × Obj) → Nat → Prop)
    (W : Walks prog w A I [I] [I] n P St) (hI : I = s.heap.objs.size) (hsz : n ≤ sizeLine) (alive : ∀ i h, St i h → ∃ o, h.get? I = some o)
    (hSt : ∀ i h h' o, St i h → h.get? I = some o → h'.get? I = some o → St i h') (hst : St 0 (s.heap.push o)) (F : Fr h₀ L s.heap m) (N : News h₀ L s.heap news)
    (hJl : ∀ i ys nw t, J i ys nw t → ys.length ≤ i) (hJt : ∀ i ys nw t t', J i ys nw t → t ≤ t' → J i ys nw t') (hJ : J 0 [] news s.toks)
    (turn : ∀ s' : Shared, (∃ h, s' = { s with heap := h }) → GTurn prog w A h₀ L m env elt target ifs scope cl s' n P J) (ht : ∀ v, letOwnedTupleGo target (.ref I) v = pure ())
    (fin : ∀ D h tk ys news', J n ys news' tk → Fr h₀ L h m → News h₀ L h ((D, LCg.lst ys) :: news') → LCg.Off1 D news' → Q (.ref D) { s with heap := h, toks := tk }) :
    CompAtG prog w A h₀ L m env elt target ifs scope cl Q (.ref I) { s with heap := s.heap.push o } := by
  subst hI
  refine ⟨_, _, n, _, _, fun _ => True, news, J, rfl, W, hsz, alive, (fun i h h' o nw a b c _ _ _ => hSt i h h' o a b c), (fun _ _ _ _ _ => trivial), hJl, hJt, hst, ?_, F.push _, (fun p hp => ⟨Heap.get?_push_of_some _ (N p hp).1, (N p hp).2⟩), Nat.ne_of_lt F.ns.lt, next_is_new F, (fun p hp => Nat.ne_of_lt (Heap.lt_size (N p hp).1)), hJ, turn _ ⟨_, rfl⟩, ht, fin⟩
  intro b hb
  rw [List.mem_singleton.mp hb]
  show s.heap.objs.size < (s.heap.push _).objs.size
  rw [Heap.size_push]; exact Nat.lt_succ_self _

theorem compG_list {ax : Addr} {vs : List Value} {elt target : Expr} {ifs : List Expr} {scope : Scope} {cl : List (Str × Addr)} {Q : Value → Shared → Prop} {news : List (Addr × Obj)} (J : Nat → List Value → List (Addr × Obj) → Nat → Prop)
    (hh : A.handled = none) (F : Fr h₀ L s.heap m) (N : News h₀ L s.heap news) (hJS : ∀ i ys nw t, J i ys nw t → LCg.SrcAt h₀ ax vs.toArray nw) (hsz : vs.length ≤ sizeLine)
    (hJl : ∀ i ys nw t, J i ys nw t → ys.length ≤ i) (hJt : ∀ i ys nw t t', J i ys nw t → t ≤ t' → J i ys nw t') (hJ : J 0 [] news s.toks)
    (turn : ∀ s' : Shared, (∃ h, s' = { s with heap := h }) → GTurn prog w A h₀ L m env elt target ifs scope cl s' vs.length (fun i v => vs[i]? = some v) J) (ht : ∀ I v, letOwnedTupleGo target (.ref I) v = pure ())
    (fin : ∀ D h tk ys news', J vs.length ys news' tk → Fr h₀ L h m → News h₀ L h ((D, LCg.lst ys) :: news') → LCg.Off1 D news' → Q (.ref D) { s with heap := h, toks := tk }) :
    wpAny (model prog w) A (pyIter (.ref ax)) (fun it s₂ => CompAtG prog w A h₀ L m env elt target ifs scope cl Q it s₂) E s := by
  have hl := (hJS _ _ _ _ hJ).list F.keep N
  have hlt : ax < s.heap.objs.size := by obtain ⟨_, e, _⟩ := hl; exact Heap.lt_size e
  refine wpAny_pyIter_list hl ?_
  have W := Walks.list (prog := prog) (w := w) hh s.heap.objs.size ax (Nat.ne_of_lt hlt) vs.toArray
  have e : vs.toArray.size = vs.length := by simp
  rw [e] at W
  refine ⟨_, _, vs.length, _, _, LCg.SrcAt h₀ ax vs.toArray, news, J, rfl, W, hsz, (fun i h st => by obtain ⟨o, e, _⟩ := st.1; exact ⟨o, e⟩), LCg.list_st, hJS, hJl, hJt, ⟨⟨_, Heap.get?_push_size _ rfl, rfl, rfl⟩, hl.push _⟩, ?_, F.push _, (fun p hp => ⟨Heap.get?_push_of_some _ (N p hp).1, (N p hp).2⟩), Nat.ne_of_lt F.ns.lt, next_is_new F, (fun p hp => Nat.ne_of_lt (Heap.lt_size (N p hp).1)), hJ, ?_, ht _, fin⟩
  · intro b hb
    show b < (s.heap.push _).objs.size
    rw [Heap.size_push]
    rcases List.mem_cons.mp hb with rfl | hb
    · exact Nat.lt_succ_self _
    · rw [List.mem_singleton.mp hb]; exact Nat.lt_succ_of_lt hlt
  · intro i v ys news I oI C oC D m' h t₀ tk E' hi hP
    exact turn _ ⟨_, rfl⟩ i v ys news I oI C oC D m' h t₀ tk E' hi (by simpa using hP)

theorem compG_range {r : Addr} {a b : Int} {t u v : Tok} {n : Nat} {elt target : Expr} {ifs : List Expr} {scope : Scope} {cl : List (Str × Addr)} {Q : Value → Shared → Prop} {news : List (Addr × Obj)} (J : Nat → List Value → List (Addr × Obj) → Nat → Prop)
    (hh : A.handled = none) (hr : IsRange s.heap r a b 1 t u v) (hsm : Builtin.Range.small a b 1 = true) (hn : Builtin.Range.rangeSize a b 1 = ((n : Nat) : Int)) (hsz : n ≤ sizeLine) (F : Fr h₀ L s.heap m) (N : News h₀ L s.heap news)
    (hJl : ∀ i ys nw t, J i ys nw t → ys.length ≤ i) (hJt : ∀ i ys nw t t', J i ys nw t → t ≤ t' → J i ys nw t') (hJ : J 0 [] news s.toks)
    (turn : ∀ s' : Shared, (∃ h, s' = { s with heap := h }) → GTurn prog w A h₀ L m env elt target ifs scope cl s' n (fun i v => ∃ t, v = .int (a + (i : Int)) t) J) (ht : ∀ I v, letOwnedTupleGo target (.ref I) v = pure ())
    (fin : ∀ D h tk ys news', J n ys news' tk → Fr h₀ L h m → News h₀ L h ((D, LCg.lst ys) :: news') → LCg.Off1 D news' → Q (.ref D) { s with heap := h, toks := tk }) :
    wpAny (model prog w) A (pyIter (.ref r)) (fun it s₂ => CompAtG prog w A h₀ L m env elt target ifs scope cl Q it s₂) E s := by
  refine wpAny_pyIter_range hr hsm ?_
  refine compG_walk J (LCg.range_walks hh a n) rfl hsz (fun i h st => ⟨_, st⟩) ?_ (by show IsRangeIter _ _ _ _ _; rw [hn]; simpa using Heap.get?_push_size _ rfl) F N hJl hJt hJ turn (ht _) fin
  intro i h h' o st e e'
  have st' : h.get? _ = some _ := st
  show h'.get? _ = some _
  rw [e', ← e]; exact st'

theorem compG_str {y : PySem.Str} {t : Tok} {elt target : Expr} {ifs : List Expr} {scope : Scope} {cl : List (Str × Addr)} {Q : Value → Shared → Prop} {news : List (Addr × Obj)} (J : Nat → List Value → List (Addr × Obj) → Nat → Prop)
    (hh : A.handled = none) (hsz : y.cps.size ≤ sizeLine) (F : Fr h₀ L s.heap m) (N : News h₀ L s.heap news)
    (hJl : ∀ i ys nw t, J i ys nw t → ys.length ≤ i) (hJt : ∀ i ys nw t t', J i ys nw t → t ≤ t' → J i ys nw t') (hJ : J 0 [] news s.toks)
    (turn : ∀ s' : Shared, (∃ h, s' = { s with heap := h }) → GTurn prog w A h₀ L m env elt target ifs scope cl s' y.cps.size (SignAt y) J) (ht : ∀ I v, letOwnedTupleGo target (.ref I) v = pure ())
    (fin : ∀ D h tk ys news', J y.cps.size ys news' tk → Fr h₀ L h m → News h₀ L h ((D, LCg.lst ys) :: news') → LCg.Off1 D news' → Q (.ref D) { s with heap := h, toks := tk }) :
    wpAny (model prog w) A (pyIter (.str y t)) (fun it s₂ => CompAtG prog w A h₀ L m env elt target ifs scope cl Q it s₂) E s := by
  cases ha : y.cps.all (· < 128)
  · refine wpAny_pyIter_wide ha ?_
    refine compG_walk J (Walks.strWide hh _ y t) rfl hsz (fun i h st => by obtain ⟨o, e, _⟩ := st; exact ⟨o, e⟩) ?_ ⟨_, Heap.get?_push_size _ rfl, rfl, rfl⟩ F N hJl hJt hJ turn (ht _) fin
    rintro i h h' o ⟨o', e, r⟩ e1 e2
    rw [e1] at e; cases e
    exact ⟨o, e2, r⟩
  · refine wpAny_pyIter_ascii ha ?_
    refine compG_walk J (Walks.strAscii hh _ y t) rfl hsz (fun i h st => by obtain ⟨o, e, _⟩ := st; exact ⟨o, e⟩) ?_ ⟨_, Heap.get?_push_size _ rfl, rfl, rfl⟩ F N hJl hJt hJ turn (ht _) fin
    rintro i h h' o ⟨o', e, r⟩ e1 e2
    rw [e1] at e; cases e
    exact ⟨o, e2, r⟩
end
theorem tests_nil {prog : Program} {w : World} {A : Around} {E : Value → Shared → Prop} {s : Shared} {env : Env} {Q : Bool → Shared → Prop} (h : Q true s) : wpAny (model prog w) A (testsOf [] env) Q E s := by
  show wpAny _ _ (pure true) _ _ _
  exact wpAny_pure h
end Mine

end
section
open PySem PySem.W PyProof.Rows PySem.Builtin PySem.Builtin.Str
namespace Mine
theorem at_iff {l s : List Nat} (hs : s ≠ []) (k : Nat) : StrLaws.At (tx l) (tx s) (tx l).length k ↔ s <+: l.drop k := by
  unfold StrLaws.At
  rw [StrLaws.subAt_eq, tx_len, tx_len, beq_iff_eq]
  show (k + s.length ≤ l.length ∧ (l.drop k).take s.length = s) ↔ _
  constructor
  · rintro ⟨_, h⟩
    rw [List.prefix_iff_eq_take]; exact h.symm
  · intro h
    have h1 := h.length_le
    have h2 : 0 < s.length := List.length_pos_iff.mpr hs
    rw [List.length_drop] at h1
    exact ⟨by omega, (List.prefix_iff_eq_take.mp h).symm⟩
theorem chain_of {l s : List Nat} (hs : s ≠ []) : ∀ (ps : List Nat) (a f : Nat), StrLaws.ChainG (tx l) (tx s) (tx l).length a ps f → Chain s l a ps f
  | [], _, _, h => h
  | p :: r, a, f, ⟨h1, h2, h3, h4⟩ => by
    rw [tx_len] at h4
    exact ⟨h1, (at_iff hs p).mp h2, fun k hk hk' q => h3 k hk hk' ((at_iff hs k).mpr q), chain_of hs r _ f h4⟩
theorem parts_tx (l : List Nat) (w : Nat) : ∀ (ps : List Nat) (a : Nat), StrLaws.partsFrom (tx l) w a ps = (partsL l w a ps).map tx
  | [], a => by
    show [strSub (tx l) a (tx l).length] = [tx (l.drop a)]
    congr 1
    rw [tx_cps (strSub _ _ _), StrLaws.strSub_toList, tx_len]
    congr 1
    show ((l.drop a).take (l.length - a)) = _
    rw [List.take_of_length_le (by rw [List.length_drop]; exact Nat.le_refl _)]
  | p :: r, a => by
    show strSub (tx l) a p :: StrLaws.partsFrom (tx l) w (p + w) r = tx ((l.drop a).take (p - a)) :: (partsL l w (p + w) r).map tx
    rw [parts_tx l w r, tx_cps (strSub _ _ _), StrLaws.strSub_toList]
theorem occ_cut {l s : List Nat} (hs : s ≠ []) : partsBetween (tx l) (occurrences (tx l) (tx s) 0 (tx l).length ((tx l).length + 1)) (tx s).length = (cut s l 0).map tx := by
  obtain ⟨f, h1, h2⟩ := StrLaws.occ_tight (tx l) (tx s) (by rw [tx_len]; exact List.length_pos_iff.mpr hs)
  rw [StrLaws.partsBetween_eq, parts_tx, tx_len]
  congr 1
  have := cut_chain hs _ 0 f (chain_of hs _ _ _ h1) (fun k hk q => h2 k hk ((at_iff hs k).mpr q))
  rw [List.drop_zero] at this
  rw [this]
theorem occ_empty {l s : List Nat} (hs : s ≠ []) (h : (occurrences (tx l) (tx s) 0 (tx l).length ((tx l).length + 1)).isEmpty = true) : cut s l 0 = [l] := by
  have e := occ_cut (l := l) hs
  rw [List.isEmpty_iff.mp h] at e
  rw [StrLaws.partsBetween_eq, parts_tx] at e
  have e' : (partsL l (tx s).length 0 []).map tx = (cut s l 0).map tx := e
  have : (partsL l (tx s).length 0 []) = cut s l 0 := by
    have inj : ∀ (a b : List (List Nat)), a.map tx = b.map tx → a = b := by
      intro a
      induction a with
      | nil => intro b h; cases b with | nil => rfl | cons _ _ => cases h
      | cons x r ih =>
        intro b h
        cases b with
        | nil => cases h
        | cons y q =>
          rw [List.map_cons, List.map_cons] at h
          injection h with h1 h2
          rw [tx_inj h1, ih q h2]
    exact inj _ _ e'
  rw [← this]
  simp [partsL]
theorem kind_le {l s : List Nat} {k : Nat} (h : s <+: l.drop k) : Builtin.Str.strKind (tx s) ≤ Builtin.Str.strKind (tx l) := by
  have hm : ∀ c ∈ s, c ∈ l := fun c hc => List.mem_of_mem_drop (h.subset hc)
  have g : ∀ n, ((tx l).cps.all (· < n)) = true → ((tx s).cps.all (· < n)) = true := by
    intro n h
    rw [Array.all_eq_true'] at h ⊢
    intro c hc
    exact h c (by simpa using hm c (by simpa using hc))
  unfold Builtin.Str.strKind
  by_cases h1 : ((tx l).cps.all (· < 256)) = true
  · rw [if_pos h1, if_pos (g _ h1)]; exact Nat.le_refl _
  · rw [if_neg h1]
    by_cases h2 : ((tx l).cps.all (· < 65536)) = true
    · rw [if_pos h2]
      split
      · decide
      · rw [if_pos (g _ h2)]; exact Nat.le_refl _
    · rw [if_neg h2]
      split
      · decide
      · split <;> decide
theorem split_cut {l s : List Nat} (hs : s ≠ []) : Txt.split (tx l) (tx s) = (cut s l 0).map tx := by
  unfold Txt.split
  split
  · rename_i h
    rw [Bool.or_eq_true, decide_eq_true_eq, decide_eq_true_eq, tx_len, tx_len] at h
    have : ∀ k, ¬ s <+: l.drop k := by
      intro k hp
      rcases h with h | h
      · have := hp.length_le
        rw [List.length_drop] at this
        omega
      · have := kind_le hp
        omega
    rw [cut_end hs this]; rfl
  · split
    · rename_i h
      rw [occ_empty hs h]; rfl
    · exact occ_cut hs
theorem replace_cut {l s n : List Nat} (hs : s ≠ []) : Txt.replace (tx l) (tx s) (tx n) = tx (glue n (cut s l 0)) := by
  unfold Txt.replace
  split
  · rename_i h
    rw [Bool.or_eq_true] at h
    rcases h with h | h
    · rw [occ_empty hs h]; rfl
    · rw [Bool.and_eq_true, beq_iff_eq, tx_len] at h
      exact absurd (List.length_eq_zero_iff.mp h.1) hs
  · rw [occ_cut hs]
    exact join_tx n _

/-- the bytes' own search -/
theorem bocc_chain {b sp : Array UInt8} (hs : sp.toList ≠ []) : ∀ m, ∃ acc free, ((List.range m).map (· + 0)).foldl (fun (acc : List Nat × Nat) (i : Nat) => if (decide (i ≥ acc.2) && (b.extract i (i + sp.size) == sp)) = true then (i :: acc.1, i + sp.size) else acc) ([], 0) = (acc, free) ∧
    Chain sp.toList b.toList 0 acc.reverse free ∧ ∀ k, free ≤ k → k < m → ¬ sp.toList <+: b.toList.drop k := by
  have hit : ∀ i, (b.extract i (i + sp.size) == sp) = true ↔ sp.toList <+: b.toList.drop i := by
    intro i
    rw [beq_iff_eq, ← Array.toList_inj, Array.toList_extract, List.extract_eq_take_drop, List.prefix_iff_eq_take]
    rw [show i + sp.size - i = sp.size by omega, Array.length_toList]
    exact eq_comm
  have snoc : ∀ (ps : List Nat) (a f p : Nat), Chain sp.toList b.toList a ps f → f ≤ p → sp.toList <+: b.toList.drop p → (∀ k, f ≤ k → k < p → ¬ sp.toList <+: b.toList.drop k) → Chain sp.toList b.toList a (ps ++ [p]) (p + sp.size) := by
    intro ps
    induction ps with
    | nil =>
      intro a f p h h1 h2 h3
      have e : f = a := h
      subst e
      exact ⟨h1, h2, h3, by rw [Array.length_toList]; rfl⟩
    | cons q r ih =>
      rintro a f p ⟨g1, g2, g3, g4⟩ h1 h2 h3
      exact ⟨g1, g2, g3, ih _ _ _ g4 h1 h2 h3⟩
  intro m
  induction m with
  | zero => exact ⟨[], 0, rfl, rfl, fun k _ h => absurd h (Nat.not_lt_zero _)⟩
  | succ m ih =>
    obtain ⟨acc, free, e, c, n⟩ := ih
    rw [List.range_succ, List.map_append, List.foldl_append, e]
    simp only [List.map_cons, List.map_nil, List.foldl_cons, List.foldl_nil, Nat.add_zero]
    split
    · rename_i h
      rw [Bool.and_eq_true, decide_eq_true_eq] at h
      refine ⟨m :: acc, m + sp.size, rfl, ?_, ?_⟩
      · rw [List.reverse_cons]
        exact snoc _ _ _ _ c h.1 ((hit m).mp h.2) n
      · intro k h1 h2
        have : 0 < sp.size := by rw [← Array.length_toList]; exact List.length_pos_iff.mpr hs
        omega
    · rename_i h
      refine ⟨acc, free, rfl, c, fun k h1 h2 q => ?_⟩
      by_cases hk : k < m
      · exact n k h1 hk q
      · have ek : k = m := by omega
        subst ek
        exact h (by rw [Bool.and_eq_true, decide_eq_true_eq]; exact ⟨h1, (hit k).mpr q⟩)
theorem between_eq {b : Array UInt8} {w : Nat} (ps : List Nat) : (Bytes.between b w ps).map Array.toList = partsL b.toList w 0 ps := by
  have key : ∀ (ps : List Nat) (parts : Array (Array UInt8)) (last : Nat), ((let r := ps.foldl (fun (x : Array (Array UInt8) × Nat) p => (x.1.push (b.extract x.2 p), p + w)) (parts, last); (r.1.push (b.extract r.2 b.size)).toList)).map Array.toList = parts.toList.map Array.toList ++ partsL b.toList w last ps := by
    intro ps
    induction ps with
    | nil =>
      intro parts last
      simp [partsL]
      rw [← Array.length_toList, List.take_of_length_le (by rw [List.length_drop]; exact Nat.le_refl _)]
    | cons p r ih =>
      intro parts last
      rw [List.foldl_cons]
      have := ih (parts.push (b.extract last p)) (p + w)
      rw [this]
      simp [partsL, List.extract_eq_take_drop]
  have := key ps #[] 0
  simpa [Bytes.between] using this

theorem between_cut {b sp : Array UInt8} (hs : sp.toList ≠ []) : (Bytes.between b sp.size (Bytes.occurrences b sp 0 b.size)).map Array.toList = cut sp.toList b.toList 0 := by
  obtain ⟨acc, free, e, c, n⟩ := bocc_chain (b := b) hs (b.size + 1 - (0 + sp.size))
  have eo : Bytes.occurrences b sp 0 b.size = acc.reverse := by
    unfold Bytes.occurrences
    have : (List.map (fun x => x + 0) (List.range (b.size + 1 - (0 + sp.size)))).foldl (fun (acc : List Nat × Nat) (i : Nat) => if (decide (i ≥ acc.2) && (b.extract i (i + sp.size) == sp)) = true then (i :: acc.1, i + sp.size) else acc) ([], 0) = (acc, free) := e
    dsimp only
    rw [this]
  rw [eo, between_eq]
  have h := cut_chain hs acc.reverse 0 free c (fun k hk q => by
    have h1 := q.length_le
    have h2 : 0 < sp.toList.length := List.length_pos_iff.mpr hs
    rw [List.length_drop, Array.length_toList, Array.length_toList] at h1
    rw [Array.length_toList] at h2
    exact n k hk (by omega) q)
  rw [List.drop_zero, Array.length_toList] at h
  exact h.symm
theorem occ_none_cut {b sp : Array UInt8} (hs : sp.toList ≠ []) (he : Bytes.occurrences b sp 0 b.size = []) : cut sp.toList b.toList 0 = [b.toList] := by
  obtain ⟨acc, free, e, c, n⟩ := bocc_chain (b := b) hs (b.size + 1 - (0 + sp.size))
  have eo : Bytes.occurrences b sp 0 b.size = acc.reverse := by
    unfold Bytes.occurrences
    have : (List.map (fun x => x + 0) (List.range (b.size + 1 - (0 + sp.size)))).foldl (fun (acc : List Nat × Nat) (i : Nat) => if (decide (i ≥ acc.2) && (b.extract i (i + sp.size) == sp)) = true then (i :: acc.1, i + sp.size) else acc) ([], 0) = (acc, free) := e
    dsimp only
    rw [this]
  have h := cut_chain hs acc.reverse 0 free c (fun k hk q => by
    have h1 := q.length_le
    have h2 : 0 < sp.toList.length := List.length_pos_iff.mpr hs
    rw [List.length_drop, Array.length_toList, Array.length_toList] at h1
    rw [Array.length_toList] at h2
    exact n k hk (by omega) q)
  rw [← eo, he] at h
  simpa [partsL] using h
theorem bocc_len {b sp : Array UInt8} : (Bytes.occurrences b sp 0 b.size).length ≤ b.size + 1 := by
  have key : ∀ (l : List Nat) (st : List Nat × Nat), (l.foldl (fun (acc : List Nat × Nat) (i : Nat) => if (decide (i ≥ acc.2) && (b.extract i (i + sp.size) == sp)) = true then (i :: acc.1, i + sp.size) else acc) st).1.length ≤ st.1.length + l.length := by
    intro l
    induction l with
    | nil => intro st; simp
    | cons i l ih =>
      intro st
      rw [List.foldl_cons]
      refine Nat.le_trans (ih _) ?_
      split <;> simp <;> omega
  unfold Bytes.occurrences
  have := key (List.map (fun x => x + 0) (List.range (b.size + 1 - (0 + sp.size)))) ([], 0)
  rw [List.length_reverse]
  refine Nat.le_trans this ?_
  simp

/-- values that are bytes -/
inductive BytesAre : List Value → List (List UInt8) → Prop
  | nil : BytesAre [] []
  | cons (b : Array UInt8) (t : Tok) {vs ls} : BytesAre vs ls → BytesAre (.bytes b t :: vs) (b.toList :: ls)
theorem bytes_mapM {M : Model} {A : Around} {E : Value → Shared → Prop} : ∀ (xs : List (Array UInt8)) (s : Shared) (Q : List Value → Shared → Prop), (∀ x ∈ xs, x.size ≤ sizeLine) → (∀ vs tk, BytesAre vs (xs.map Array.toList) → Q vs { s with toks := tk }) → wpAny M A (xs.mapM (Bytes.Kind.new .bytes)) Q E s
  | [], s, Q, _, h => by rw [List.mapM_nil]; exact wpAny_pure (h [] s.toks .nil)
  | x :: r, s, Q, hx, h => by
    rw [List.mapM_cons]
    refine wpAny_bind ?_
    show wpAny M A (mkBytes x) _ _ _
    unfold mkBytes
    rw [if_neg (by have := hx x (List.mem_cons_self ..); omega)]
    refine wpAny_bind (wpAny_fresh (wpAny_pure (wpAny_bind (bytes_mapM r _ _ (fun y hy => hx y (List.mem_cons_of_mem _ hy)) fun vs tk hv => wpAny_pure ?_))))
    exact h _ tk (.cons x _ hv)

section
variable {prog : Program} {w : World} {A : Around} {E : Value → Shared → Prop} {s : Shared} {h₀ : Heap} {L : Addr} {m : PySem.Str → Option Value} {news : List (Addr × Obj)} {Q : Value → Shared → Prop}
theorem bs_eq {b : Array UInt8} {c : UInt8} {cs : List UInt8} {t u : Tok} : Builtin.«bytes.split» ⟨[.bytes b t, .bytes (c :: cs).toArray u], []⟩ =
  (if ((Bytes.occurrences b (c :: cs).toArray 0 b.size).take (b.size + 1)).isEmpty then (do rule "bytes.split.no-separator"; ret (← newList [.bytes b t]))
   else (do ret (← newList (← (Bytes.between b (c :: cs).toArray.size ((Bytes.occurrences b (c :: cs).toArray 0 b.size).take (b.size + 1))).mapM (Bytes.Kind.new .bytes))))) := by kernel_rfl
theorem split_rule {l sp : List Nat} {t u : Tok} (F : Fr h₀ L s.heap m) (N : News h₀ L s.heap news) (hs : sp ≠ []) (hsz : l.length + 2 ≤ sizeLine)
    (h : ∀ D vs h' k, StrsAre vs ((cut sp l 0).map tx) → Fr h₀ L h' m → News h₀ L h' ((D, W.listOf vs.toArray 0) :: news) → (∀ p ∈ news, p.1 < D) → Q (.ref D) { s with heap := h', toks := k }) :
    wpAny (model prog w) A (call (.builtin "str.split") [.str (tx l) t, .str (tx sp) u]) Q E s := by
  refine KSpl.split1 F N (by rw [tx_len]; simp [hs]) (fun D l' h' k e a F' N' lt => ?_) (by rw [tx_len]; exact hsz)
  rw [split_cut hs] at e
  rw [e] at a
  exact h D _ h' k a F' N' lt
theorem replace_rule {l sp n : List Nat} {t u v : Tok} (hs : sp ≠ []) (hu : u ≠ 0) (hv : v ≠ 0) (huv : u ≠ v) (hb : l.length + (l.length + 1) * n.length ≤ 16777216) (hnb : NoneBooked s.heap)
    (h : ∀ t' k, Q (.str (tx (glue n (cut sp l 0))) t') { s with toks := k }) :
    wpAny (model prog w) A (call (.builtin "str.replace") [.str (tx l) t, .str (tx sp) u, .str (tx n) v]) Q E s := by
  refine SC.replaceA hu hv huv (by rw [tx_len, tx_len]; exact hb) (fun t' k => ?_) hnb
  rw [replace_cut hs]
  exact h t' k
theorem newList_any {vs : List Value} {s : Shared} {Q : Value → Shared → Prop} (F : Fr h₀ L s.heap m) (N : News h₀ L s.heap news)
    (h : ∀ D h', Fr h₀ L h' m → News h₀ L h' ((D, W.listOf vs.toArray 0) :: news) → (∀ p ∈ news, p.1 < D) → Q (.ref D) { s with heap := h' }) (hsz : vs.length ≤ sizeLine) : wpAny (model prog w) A (newList vs) Q E s :=
  newList_K F N (fun l h' F' N' lt => h l h' F' N' lt) hsz
theorem slot_bytes_split : Slot "bytes" "split" "bytes.split" :=
  .of (owner := "bytes") (n := "split") (by rw [typeLookup_type, builtinLookup_eq_fast]; kernel_rfl) (by decide +kernel) (by decide +kernel) (by decide +kernel)
    (by first | exact .inl (by decide +kernel) | exact .inr (by decide +kernel)) (by rw [isSubtype_type]; kernel_rfl)
theorem type_bytes_split : typeOf (.builtin "bytes.split") = pure (.type "method_descriptor") := by show builtinType _ = _; rw [builtinType_eq_fast]; kernel_rfl
theorem entry_bytes_split : entryFor table "bytes.split" = some Builtin.«bytes.split» := entryFor_of_tree (by kernel_rfl)
theorem args_bytes_split_2 (a b : Value) : argsOk "bytes.split" ⟨[a, b], []⟩ := by
  unfold argsOk; rw [signature?_of (id := "bytes.split") (n := ['t', 'i', 'l', 'p', 's']) (o := ['s', 'e', 't', 'y', 'b']) (by kernel_rfl) FB.owner_bytes]; kernel_rfl
theorem gm_bsplit {M : Model} {A : Around} {E : Value → Shared → Prop} {s : Shared} {b : Array UInt8} {t : Tok} {pl : Sem Bool} {Q : Value × List Value → Shared → Prop} (h : Q (.builtin "bytes.split", [.bytes b t]) s) : wpAny M A (getMethod (.bytes b t) (PySem.Str.ofString "split") pl) Q E s := by
  with_reducible exact KBd.method_of (.bytes b t) (typeIs_bytes _ _ _) slot_bytes_split type_bytes_split KBd.noRef h
theorem between_len {b : Array UInt8} {w : Nat} {ps : List Nat} : (Bytes.between b w ps).length = ps.length + 1 := by
  have := congrArg List.length (between_eq (b := b) (w := w) ps)
  rw [List.length_map] at this
  rw [this]
  clear this
  generalize 0 = a
  induction ps generalizing a with
  | nil => rfl
  | cons p r ih => simp [partsL, ih]
theorem between_size {b : Array UInt8} {w : Nat} {ps : List Nat} : ∀ x ∈ Bytes.between b w ps, x.size ≤ b.size := by
  intro x hx
  have h1 : x.toList ∈ partsL b.toList w 0 ps := by rw [← between_eq]; exact List.mem_map_of_mem hx
  have key : ∀ (ps : List Nat) (a : Nat) (y : List UInt8), y ∈ partsL b.toList w a ps → y.length ≤ b.toList.length := by
    intro ps
    induction ps with
    | nil => intro a y hy; simp [partsL] at hy; subst hy; simp
    | cons p r ih =>
      intro a y hy
      simp [partsL] at hy
      rcases hy with rfl | hy
      · simp; omega
      · simpa using ih _ y hy
  have := key ps 0 _ h1
  simpa using this
theorem bsplit_rule {b sp : Array UInt8} {t u : Tok} (F : Fr h₀ L s.heap m) (N : News h₀ L s.heap news) (hs : sp.toList ≠ []) (hsz : b.size + 2 ≤ sizeLine)
    (h : ∀ D vs h' k, BytesAre vs (cut sp.toList b.toList 0) → Fr h₀ L h' m → News h₀ L h' ((D, W.listOf vs.toArray 0) :: news) → (∀ p ∈ news, p.1 < D) → Q (.ref D) { s with heap := h', toks := k }) :
    wpAny (model prog w) A (call (.builtin "bytes.split") [.bytes b t, .bytes sp u]) Q E s := by
  refine wpAny_call_entry slot_bytes_split (typeIs_bytes _ _ _) entry_bytes_split ?_ (args_bytes_split_2 _ _)
  obtain ⟨c, cs, rfl⟩ : ∃ c cs, sp = (c :: cs).toArray := by
    obtain ⟨l⟩ := sp
    cases l with
    | nil => exact absurd rfl hs
    | cons c cs => exact ⟨c, cs, rfl⟩
  rw [bs_eq]
  have ht : (Bytes.occurrences b (c :: cs).toArray 0 b.size).take (b.size + 1) = Bytes.occurrences b (c :: cs).toArray 0 b.size := List.take_of_length_le bocc_len
  rw [ht]
  split
  · rename_i he
    refine wpAny_bind (wpAny_rule (wpAny_bind (newList_any F N (fun D h' F' N' lt => wpAny_pure ⟨_, rfl, ?_⟩) (by rw [sizeLine_eq]; exact Nat.le_of_ble_eq_true rfl))))
    refine h D _ h' s.toks ?_ F' N' lt
    rw [occ_none_cut hs (List.isEmpty_iff.mp he)]
    exact .cons b t .nil
  · have hz : ∀ x ∈ Bytes.between b (c :: cs).toArray.size (Bytes.occurrences b (c :: cs).toArray 0 b.size), x.size ≤ sizeLine := fun x hx => Nat.le_trans (between_size x hx) (by omega)
    refine wpAny_bind (bytes_mapM _ _ _ hz fun vs tk hv => wpAny_bind ?_)
    have hvl : ∀ {vs ls}, BytesAre vs ls → vs.length = ls.length := by
      intro vs ls hh
      induction hh with
      | nil => rfl
      | cons _ _ _ ih => simp [ih]
    refine newList_any (s := { s with toks := tk }) F N (fun D h' F' N' lt => wpAny_pure ⟨_, rfl, ?_⟩) ?_
    · refine h D vs h' tk ?_ F' N' lt
      rw [← between_cut hs]
      exact hv
    · rw [hvl hv, List.length_map, between_len]
      have := bocc_len (b := b) (sp := (c :: cs).toArray)
      omega
end
end Mine

end
section
open PySem PySem.W PyProof.Rows PySem.SeqAt
namespace Mine
theorem all2_get {α β : Type} {R : α → β → Prop} : ∀ {l : List α} {r : List β}, All2 R l r → ∀ (j : Nat) (h1 : j < l.length) (h2 : j < r.length), R l[j] r[j]
  | _, _, .nil, _, h, _ => absurd h (Nat.not_lt_zero _)
  | _, _, .cons h _, 0, _, _ => h
  | _, _, .cons _ t, j + 1, h1, h2 => all2_get t j (Nat.lt_of_succ_lt_succ h1) (Nat.lt_of_succ_lt_succ h2)
section
variable {prog : Program} {w : World} {A : Around} {E : Value → Shared → Prop} {s : Shared} {Q : Value → Shared → Prop}
theorem ne_same {l b : Addr} {vs ws : List Value} (hl : s.heap.IsList l vs.toArray) (hb : s.heap.IsList b ws.toArray) (h2 : All2 (fun v w => EqAt A.in1 s v w true) vs ws) (hu : A.units < cLine) (h : Q (.bool false) s) :
    wpAny (model prog w) A (compareOp .NotEq (.ref l) (.ref b)) Q E s := by
  have hn := h2.len
  refine RcNeAt.lists (e := fun _ => true) hl hb (by simp [hn]) hu (fun j h1 h3 => ?_) prog w E Q ?_
  · have := all2_get h2 j (by simpa using h1) (by simpa using h3)
    simpa using this
  · rw [show (List.range vs.toArray.size).all (fun _ => true) = true from List.all_eq_true.mpr fun _ _ => rfl]; exact h
theorem eq_same {l b : Addr} {vs ws : List Value} (hl : s.heap.IsList l vs.toArray) (hb : s.heap.IsList b ws.toArray) (h2 : All2 (fun v w => EqAt A.in1 s v w true) vs ws) (hu : A.units < cLine) (h : Q (.bool true) s) :
    wpAny (model prog w) A (compareOp .Eq (.ref l) (.ref b)) Q E s := by
  have hn := h2.len
  refine RcAt.lists (e := fun _ => true) hl hb (by simp [hn]) hu (fun j h1 h3 => ?_) prog w E Q ?_
  · have := all2_get h2 j (by simpa using h1) (by simpa using h3)
    simpa using this
  · rw [show (List.range vs.toArray.size).all (fun _ => true) = true from List.all_eq_true.mpr fun _ _ => rfl]; exact h
end
theorem strs_same {A : Around} {s : Shared} {ss : List PySem.Str} : ∀ {vs ws : List Value}, StrsAre vs ss → StrsAre ws ss → All2 (fun v w => EqAt A s v w true) vs ws := by
  intro vs ws h1
  induction h1 generalizing ws with
  | nil => intro h2; cases h2; exact .nil
  | cons y t _ ih =>
    intro h2
    cases h2 with
    | cons _ u h2 =>
      refine .cons ?_ (ih h2)
      have := (eqGives_str y y t u).at A s
      rwa [beq_self_eq_true] at this
theorem bytes_same {A : Around} {s : Shared} {ls : List (List UInt8)} : ∀ {vs ws : List Value}, BytesAre vs ls → BytesAre ws ls → All2 (fun v w => EqAt A s v w true) vs ws := by
  intro vs ws h1
  induction h1 generalizing ws with
  | nil => intro h2; cases h2; exact .nil
  | cons b t _ ih =>
    intro h2
    generalize hb : b.toList = bl at h2
    cases h2 with
    | cons c u h2 =>
      refine .cons ?_ (ih h2)
      intro prog w E Q hq
      exact eqBool_bytes (by rw [hb]; simpa using hq)
end Mine

end
section
open PySem PySem.W PyProof.Rows PySem.Spec PySem.Calls
namespace Mine
/-- a claim of a def that hands back a value whose token is new -/
abbrev ClaimT (k : Nat) (prog : Program) (w : World) (K : Frag) (p : Program) (loose : List Str) (mean : ExcName → Option Value) (mg mb : Str → Option Value) (f : Addr) (news : List (Addr × Obj)) (vs : List Value) (R : Tok → Value) : Prop :=
  ∀ (dp un : Nat) (gd : Option (List Code)) (cn : Str) (cs : Scope) (a : Addr) (ccd : Value) (cl : List (Str × Addr)) (outer : List Env) (A₀ : Around) (base h₀ : Heap) (L : Addr) (m : Str → Option Value) (s : Shared) (Q E : Value → Shared → Prop),
    Below A₀ base outer h₀ → Fr h₀ L s.heap m → K.In h₀ → News h₀ L s.heap news → Top p loose mean mg mb h₀ → cs.kind = .function →
    dp + k < recursionLimit → un + 8 * k < cLine → (∀ (t : Tok) (h' : Heap) (tk' : Nat), s.toks ≤ t → t < tk' → Fr h₀ L h' m → News h₀ L h' news → Q (R t) { s with heap := h', toks := tk' }) →
      wpAny (model prog w) (ktrTop dp un gd cn cs L a ccd cl outer) (call (.ref f) vs) Q E s
theorem claimT_use {k : Nat} {prog : Program} {w : World} {K : Frag} {p : Program} {loose : List Str} {mean : ExcName → Option Value} {mg mb : Str → Option Value} {f : Addr} {news : List (Addr × Obj)} {vs : List Value} {R : Tok → Value}
    {dp un : Nat} {gd : Option (List Code)} {cn : Str} {cs : Scope} {a : Addr} {ccd : Value} {cl : List (Str × Addr)} {outer : List Env} {A₀ : Around} {base h₀ : Heap} {L : Addr} {m : Str → Option Value} {s : Shared} {Q E : Value → Shared → Prop}
    (C : ClaimT k prog w K p loose mean mg mb f news vs R) (B : Below A₀ base outer h₀) (F : Fr h₀ L s.heap m) (X : K.In h₀) (N : News h₀ L s.heap news) (T : Top p loose mean mg mb h₀) (hk : cs.kind = .function)
    (hd : dp + k < recursionLimit) (hu : un + 8 * k < cLine) (ret : ∀ (t : Tok) (h' : Heap) (tk' : Nat), s.toks ≤ t → t < tk' → Fr h₀ L h' m → News h₀ L h' news → Q (R t) { s with heap := h', toks := tk' }) :
    wpAny (model prog w) (ktrTop dp un gd cn cs L a ccd cl outer) (call (.ref f) vs) Q E s := C _ _ _ _ _ _ _ _ _ _ _ _ _ _ _ _ _ B F X N T hk hd hu ret
theorem retS_T {h₀ h' : Heap} {L : Addr} {m : Str → Option Value} {news : List (Addr × Obj)} {s : Shared} {Q : Value → Shared → Prop} {t : Tok} {tk' : Nat} {x y : PySem.Str}
    (hret : ∀ (t : Tok) (h' : Heap) (tk' : Nat), s.toks ≤ t → t < tk' → Fr h₀ L h' m → News h₀ L h' news → Q (.str x t) { s with heap := h', toks := tk' }) (e : y = x) (h1 : s.toks ≤ t) (h2 : t < tk') (F : Fr h₀ L h' m) (N : News h₀ L h' news) : Q (.str y t) { s with heap := h', toks := tk' } := by
  subst e
  exact hret t h' tk' h1 h2 F N
theorem mod_valT {prog : Program} {w : World} {A : Around} {E : Value → Shared → Prop} {s : Shared} {Q : Value → Shared → Prop} {a b k : Int} {t u : Tok} (e : a.fmod b = k) (hb : b ≠ 0) (h : Q (.int k s.toks) { s with toks := s.toks + 1 }) :
    wpAny (model prog w) A (binaryOp .Mod (.int a t) (.int b u)) Q E s := by
  subst e
  exact mod_int' hb h

section
variable {prog : Program} {w : World} {A : Around} {E : Value → Shared → Prop} {s : Shared} {h₀ : Heap} {L : Addr} {m : Str → Option Value} {env : Env}
theorem join_T {D : Addr} {vs : List Value} {t : Tok} {ls : List (List Nat)} {Q : Value → Shared → Prop} (hl : s.heap.IsList D vs.toArray) (hi : StrsAre vs (ls.map tx)) (hok : (ls.map (·.length)).sum ≤ 16777216)
    (h : ∀ t' tk', ((∃ x, vs = [.str x t'] ∧ tk' = s.toks) ∨ (vs.length ≠ 1 ∧ t' = s.toks ∧ tk' = s.toks + 1)) → Q (.str (tx ls.flatten) t') { s with toks := tk' }) :
    wpAny (model prog w) A (call (.builtin "str.join") [.str (PySem.Str.ofString "") t, .ref D]) Q E s := by
  obtain ⟨l, rfl, ht⟩ := strsAre_values hi
  have hok' : (List.map (·.length) (l.map (·.1))).sum + (l.map (·.1)).length * (PySem.Str.ofString "").length ≤ 16777216 := by
    rw [ht, List.map_map]
    have : (ls.map ((·.length) ∘ tx)) = ls.map (·.length) := by
      apply List.map_congr_left; intro l _; exact tx_len l
    rw [this]
    have e0 : (PySem.Str.ofString "").length = 0 := by decide +kernel
    rw [e0]; simpa using hok
  have hj := joinOk_of hok'
  have hjf := hj
  unfold JoinOk at hj
  rw [Bool.not_eq_true'] at hj
  have e : Txt.join (PySem.Str.ofString "") (l.map (·.1)) = tx ls.flatten := by rw [ht, ofString_nil, join_tx, glue_nil]
  have hfit := joinFit_length hj
  refine call_meets F.slot_str_join (typeIs_str _ _ _) F.entry_str_join (F.args_str_join_2 _ _) (meets_str_join_list _ t D l hj) ⟨hl, ?_⟩
  match l, ht, e, hfit, h with
  | [], ht, e, hfit, h =>
    refine ⟨hfit, ?_⟩
    have := h s.toks (s.toks + 1) (.inr ⟨by simp [strValues], rfl, rfl⟩)
    rw [← e] at this
    exact this
  | [p], ht, e, hfit, h =>
    have := h p.2 s.toks (.inl ⟨p.1, rfl, rfl⟩)
    rw [← e] at this
    exact this
  | p :: q :: r, ht, e, hfit, h =>
    refine ⟨hfit, ?_⟩
    have := h s.toks (s.toks + 1) (.inr ⟨by simp [strValues], rfl, rfl⟩)
    rw [← e] at this
    exact this
theorem execs_consT {st : Stmt} {rest : List Stmt} {Q : Flow → Shared → Prop} (h : wpAny (model prog w) A (exec st env) (fun f s' => s.toks ≤ s'.toks → match f with | .next => wpAny (model prog w) A (execs rest env) Q E s' | f => Q f s') E s) :
    wpAny (model prog w) A (execs (st :: rest) env) Q E s := wpAny_execs_cons (wpAny_toks h)

/-- an element's end, its token new -/
def CEndT (h₀ : Heap) (L : Addr) (m : Str → Option Value) (s₁ : Shared) (news : List (Addr × Obj)) (R : Tok → Value) (y : Value) (s₂ : Shared) : Prop :=
  ∃ h' tk t, s₂ = { s₁ with heap := h', toks := tk } ∧ Fr h₀ L h' m ∧ News h₀ L h' news ∧ y = R t ∧ s₁.toks ≤ t ∧ t < tk
theorem comp_intsT {ax : Addr} {vs : List Value} {ns : List Int} {elt : Expr} {x : Str} {px : Pos} {scope : Scope} {cl : List (Str × Addr)} {Q : Value → Shared → Prop} {news : List (Addr × Obj)} (g : Int → List Nat)
    (hx : scope.names.lookup x = some .local) (hkind : scope.kind = .function)
    (hh : A.handled = none) (F : Fr h₀ L s.heap m) (N : News h₀ L s.heap news) (S : LCg.SrcAt h₀ ax vs.toArray news) (hi : IntsAre vs ns) (hsz : ns.length ≤ sizeLine)
    (turn : ∀ (k : Int) (v : Value) (I : Addr) (oI : Obj) (C : Addr) (oC : Obj) (D : Addr) (m₂ : Str → Option Value) (ys : List Value) (h : Heap) (tk : Nat) (E' : Value → Shared → Prop), s.toks ≤ tk → k ∈ ns → (∃ u, v = .int k u) → LCg.NsObj oC m₂ → m₂ x = some v → Fr h₀ L h m → News h₀ L h ((I, oI) :: (C, oC) :: (D, LCg.lst ys) :: news) → LCg.Off3 I C D news → ((@Ne Nat I C) ∧ (@Ne Nat I D) ∧ (@Ne Nat C D)) →
      wpAny (model prog w) A (eval elt (compEnvC scope cl C env)) (CEndT h₀ L m { s with heap := h, toks := tk } ((I, oI) :: (C, oC) :: (D, LCg.lst ys) :: news) (fun t => .str (tx (g k)) t)) E' { s with heap := h, toks := tk })
    (fin : ∀ ys D h tk, All2 (fun k y => ∃ t, y = .str (tx (g k)) t ∧ s.toks ≤ t ∧ t < tk) ns ys → s.toks ≤ tk → Fr h₀ L h m → News h₀ L h ((D, LCg.lst ys) :: news) → LCg.Off1 D news → Q (.ref D) { s with heap := h, toks := tk }) :
    wpAny (model prog w) A (pyIter (.ref ax)) (fun it s₂ => CompAtG prog w A h₀ L m env elt (.Name x px) [] scope cl Q it s₂) E s := by
  have hlen : vs.length = ns.length := hi.length
  let J : Nat → List Value → List (Addr × Obj) → Nat → Prop := fun i ys nw tk => nw = news ∧ s.toks ≤ tk ∧ i ≤ ns.length ∧ All2 (fun k y => ∃ t, y = Value.str (tx (g k)) t ∧ s.toks ≤ t ∧ t < tk) (ns.take i) ys
  have mono : ∀ {l ys} {t t' : Nat}, t ≤ t' → All2 (fun k y => ∃ u, y = Value.str (tx (g k)) u ∧ s.toks ≤ u ∧ u < t) l ys → All2 (fun k y => ∃ u, y = Value.str (tx (g k)) u ∧ s.toks ≤ u ∧ u < t') l ys := by
    intro l ys t t' hle h
    induction h with
    | nil => exact .nil
    | cons h _ ih => obtain ⟨u, e, h1, h2⟩ := h; exact .cons ⟨u, e, h1, Nat.lt_of_lt_of_le h2 hle⟩ ih
  refine compG_list J hh F N ?_ (by rw [hlen]; exact hsz) ?_ ?_ ⟨rfl, Nat.le_refl _, Nat.zero_le _, .nil⟩ ?_ (fun _ _ => rfl) ?_
  · rintro i ys nw t ⟨rfl, _⟩; exact S
  · rintro i ys nw t ⟨_, _, hi', h⟩
    have := h.len
    rw [List.length_take] at this
    omega
  · rintro i ys nw t t' ⟨h1, h2, hi', h3⟩ hle
    exact ⟨h1, Nat.le_trans h2 hle, hi', mono hle h3⟩
  · rintro s' ⟨hp, rfl⟩
    refine gturn_name hx hkind ?_
    rintro i v ys news₁ I oI C oC D m₂ h t₀ tk E' hin hP ⟨rfl, hj1, hj2, hj3⟩ hle hC hx' F' N' off ne
    refine tests_nil ?_
    simp only [if_true]
    obtain ⟨k, u, e, hk⟩ := IntsAre.at hi i v hP
    refine wpAny_mono (turn k v I oI C oC D m₂ ys h tk E' (Nat.le_trans hj1 hle) (List.mem_of_getElem? hk) ⟨u, e⟩ hC hx' F' N' off ne) (fun y s₂ hq => ?_) fun _ _ e => e
    obtain ⟨h', tk', t, e', F₂, N₂, ey, h1, h2⟩ := hq
    have h1' : tk ≤ t := h1
    have h3' : t₀ ≤ t := Nat.le_trans hle h1'
    have h4' : t₀ ≤ tk' := Nat.le_trans h3' (Nat.le_of_lt h2)
    have h5' : i + 1 ≤ ns.length := by rw [hlen] at hin; exact hin
    refine ⟨h', tk', oC, m₂, news₁, e', F₂, N₂, off, hC, rfl, Nat.le_trans hj1 h4', h5', ?_⟩
    rw [List.take_add_one, hk]
    exact (mono h4' hj3).snoc ⟨t, ey, Nat.le_trans hj1 h3', h2⟩
  · rintro D h tk ys news' ⟨rfl, hj1, hj2, hj3⟩ F' N' o1
    rw [hlen, List.take_length] at hj3
    exact fin ys D h tk hj3 hj1 F' N' o1
end
end Mine

end
section
open PySem PySem.W PyProof.Rows PySem.Spec PySem.Calls
namespace Mine
theorem noneBooked_of {h₀ h : Heap} {L : Addr} {m : Str → Option Value} {K : Frag} (X : K.In h₀) (F : Fr h₀ L h m) (e : K.lookup 2 = some { cls := Value.none, data := Data.dict #[] }) : NoneBooked h := by
  have h1 := F.keep _ _ (X _ _ e)
  refine ⟨fun _ => none, ⟨_, #[], _, h1, rfl, ?_, ?_⟩, rfl⟩
  · intro e he; simp at he
  · intro n; rfl
section
variable {prog : Program} {w : World} {A : Around} {E : Value → Shared → Prop} {s : Shared} {env : Env} {h₀ : Heap} {x : Str} {body : List Stmt} {Q : Flow → Shared → Prop}
/-- a loop over a list that stands first in the ledger and is changed by nobody -/
theorem iter_own {ax : Addr} {oA : Obj} {vs : List Value} {m₀ : Str → Option Value} {news : List (Addr × Obj)} (J : Inv)
    (hh : A.handled = none) (F : Fr h₀ env.locals s.heap m₀) (N : News h₀ env.locals s.heap ((ax, oA) :: news)) (hl : s.heap.IsList ax vs.toArray) (hj : J m₀ news 0 m₀ news)
    (turn : ∀ i v m₁ news₁ h tk I oI, vs[i]? = some v → J m₀ news i m₁ news₁ → (∀ p ∈ (ax, oA) :: news₁, p.1 ≠ I) → Fr h₀ env.locals h (fun z => if z = x then some v else m₁ z) → News h₀ env.locals h ((I, oI) :: (ax, oA) :: news₁) →
      wpAny (model prog w) A (execs body env) (TPost h₀ env.locals (fun m nw => ∃ nw', nw = (ax, oA) :: nw' ∧ J m₀ news (i + 1) m nw') I oI { s with heap := h, toks := tk } Q) E { s with heap := h, toks := tk })
    (done : ∀ m₁ news₁ h tk, J m₀ news vs.length m₁ news₁ → Fr h₀ env.locals h m₁ → News h₀ env.locals h news₁ → Q .next { s with heap := h, toks := tk }) :
    wpAny (model prog w) A (pyIter (.ref ax)) (fun it s₂ => LoopAtV prog w A h₀ env x body Q E it s₂) E s := by
  have hlt : ax < s.heap.objs.size := by obtain ⟨_, e, _⟩ := hl; exact Heap.lt_size e
  have zA := N (ax, oA) (List.mem_cons_self ..)
  refine wpAny_pyIter_list hl ?_
  have W := Walks.list (prog := prog) (w := w) hh s.heap.objs.size ax (Nat.ne_of_lt hlt) vs.toArray
  refine ⟨_, _, _, vs.toArray.size, _, _, m₀, (ax, oA) :: news, (fun i m nw => ∃ nw', nw = (ax, oA) :: nw' ∧ J m₀ news i m nw'), rfl, W, ?_, ?_, ?_, ⟨⟨_, Heap.get?_push_size _ rfl, rfl, rfl⟩, hl.push _⟩, F.push _, (fun p hp => ⟨Heap.get?_push_of_some _ (N p hp).1, (N p hp).2⟩), ⟨news, rfl, hj⟩, ?_, ?_⟩
  · intro hm
    rcases List.mem_cons.mp hm with h | h
    · exact absurd F.ns.lt (h ▸ Nat.lt_irrefl _)
    · exact zA.2.1 (List.mem_singleton.mp h).symm
  · intro b hb
    rw [List.mem_singleton.mp hb]
    exact next_is_new F
  · intro p hp hI
    exact absurd (Heap.lt_size (N p hp).1) ((List.mem_singleton.mp hI) ▸ Nat.lt_irrefl _)
  · rintro i v m₁ news₁ s₁ own ⟨hh', tk', rfl⟩ hin hP ⟨nw', rfl, hJ⟩ hoff hsub hget hall hst₁ F₁ N₁
    obtain ⟨oI, hoI⟩ : ∃ oI, hh'.get? s.heap.objs.size = some oI := by obtain ⟨o, e, _⟩ := hst₁.1; exact ⟨o, e⟩
    have hI₀ : h₀.get? s.heap.objs.size = none := next_is_new F
    have hmem : (s.heap.objs.size, oI) ∈ own := hall _ (List.mem_cons_self ..) hI₀ oI hoI
    have zA' := N₁ (ax, oA) (List.mem_append_right _ (List.mem_cons_self ..))
    have hown : ∀ p ∈ own, p = (s.heap.objs.size, oI) ∨ p = (ax, oA) := fun p hp => by
      have h1 := hsub p hp
      have h2 := hget p hp
      rcases List.mem_cons.mp h1 with h1 | h1
      · rw [h1] at h2
        have h3 : some oI = some p.2 := hoI.symm.trans h2
        obtain ⟨p1, p2⟩ := p
        cases h1; cases h3; exact .inl rfl
      · have h1 := List.mem_singleton.mp h1
        rw [h1] at h2
        have h3 : some oA = some p.2 := zA'.1.symm.trans h2
        obtain ⟨p1, p2⟩ := p
        cases h1; cases h3; exact .inr rfl
    have hoff' : ∀ p ∈ (ax, oA) :: nw', p.1 ≠ s.heap.objs.size := fun p hp e => hoff p hp (List.mem_singleton.mpr e)
    refine wpAny_mono (turn i v m₁ nw' hh' tk' s.heap.objs.size oI (by simpa using hP) hJ hoff' F₁ ?_) (fun f s₂ p => ?_) fun _ _ e => e
    · intro p hp
      rcases List.mem_cons.mp hp with rfl | hp
      · exact N₁ _ (List.mem_append_left _ hmem)
      · exact N₁ p (List.mem_append_right _ hp)
    have fin : TEnd h₀ env.locals (fun m nw => ∃ nw', nw = (ax, oA) :: nw' ∧ J m₀ news (i + 1) m nw') s.heap.objs.size oI { s with heap := hh', toks := tk' } s₂ → LoopStepU h₀ env.locals [s.heap.objs.size] own (fun m nw => ∃ nw', nw = (ax, oA) :: nw' ∧ J m₀ news (i + 1) m nw') { s with heap := hh', toks := tk' } .next s₂ := by
      rintro ⟨h', tk, m', news', e, F', N', off, hm⟩
      refine ⟨rfl, h', tk, m', news', e, F', fun p hp => ?_, fun p hp hI => off p hp (List.mem_singleton.mp hI), hm⟩
      rcases List.mem_append.mp hp with hp | hp
      · rcases hown p hp with rfl | rfl
        · exact N' _ (List.mem_cons_self ..)
        · obtain ⟨nw'', rfl, _⟩ := hm
          exact N' _ (List.mem_cons_of_mem _ (List.mem_cons_self ..))
      · exact N' p (List.mem_cons_of_mem _ hp)
    cases f with
    | ret v => exact .ret p
    | brk => exact .brk p
    | next => exact .next (fin p)
    | cont => exact .cont (fin p)
  · rintro h' tk m' news' F' N' _ ⟨nw', rfl, hJ⟩
    exact done m' nw' h' tk (by simpa using hJ) F' (fun p hp => N' p (List.mem_cons_of_mem _ hp))
end
end Mine

end
section
open PySem PySem.W PyProof.Rows PySem.Spec PySem.Calls
namespace Mine
section
variable {prog : Program} {w : World} {A : Around} {E : Value → Shared → Prop} {s : Shared} {h₀ : Heap} {L : Addr} {m : Str → Option Value} {env : Env}
def CompAtM (prog : Program) (w : World) (A : Around) (h₀ : Heap) (L : Addr) (m : Str → Option Value) (env : Env) (elt target : Expr) (ifs : List Expr) (scope : Scope) (cl : List (Str × Addr)) (mf : Addr → Str → Option Value) (Q : Value → Shared → Prop) (it : Value) (s : Shared) : Prop :=
  ∃ (I : Addr) (fp : List Addr) (n : Nat) (P : Nat → Value → Prop) (St : Nat → Heap → Prop) (S : List (Addr × Obj) → Prop) (news : List (Addr × Obj)) (J : Nat → List Value → List (Addr × Obj) → Nat → Prop), it = .ref I ∧ Walks prog w A I fp [I] n P St ∧ n ≤ sizeLine ∧ (∀ i h, St i h → ∃ o, h.get? I = some o) ∧
    (∀ i h h' o nw, St i h → h.get? I = some o → h'.get? I = some o → (∀ b o, h₀.get? b = some o → h'.get? b = some o) → News h₀ L h' nw → S nw → St i h') ∧
    (∀ i ys nw t, J i ys nw t → S nw) ∧ (∀ i ys nw t, J i ys nw t → ys.length ≤ i) ∧ (∀ i ys nw t t', J i ys nw t → t ≤ t' → J i ys nw t') ∧
    St 0 s.heap ∧ (∀ b ∈ fp, b < s.heap.objs.size) ∧ Fr h₀ L s.heap m ∧ News h₀ L s.heap news ∧ L ≠ I ∧ h₀.get? I = none ∧ (∀ p ∈ news, p.1 ≠ I) ∧ J 0 [] news s.toks ∧
    GTurn prog w A h₀ L m env elt target ifs scope cl s n P J ∧ (∀ v, letOwnedTupleGo target (.ref I) v = pure ()) ∧
    ∀ D h tk ys news', J n ys news' tk → Fr h₀ L h (mf D) → News h₀ L h ((D, LCg.lst ys) :: news') → LCg.Off1 D news' → Q (.ref D) { s with heap := h, toks := tk }

theorem compM_walk {I : Addr} {o : Obj} {elt target : Expr} {ifs : List Expr} {scope : Scope} {cl : List (Str × Addr)} {mf : Addr → Str → Option Value} {Q : Value → Shared → Prop} {n : Nat} {P : Nat → Value → Prop} {St : Nat → Heap → Prop} {news : List (Addr × Obj)} (J : Nat → List Value → List (Addr × Obj) → Nat → Prop)
    (W : Walks prog w A I [I] [I] n P St) (hI : I = s.heap.objs.size) (hsz : n ≤ sizeLine) (alive : ∀ i h, St i h → ∃ o, h.get? I = some o)
    (hSt : ∀ i h h' o, St i h → h.get? I = some o → h'.get? I = some o → St i h') (hst : St 0 (s.heap.push o)) (F : Fr h₀ L s.heap m) (N : News h₀ L s.heap news)
    (hJl : ∀ i ys nw t, J i ys nw t → ys.length ≤ i) (hJt : ∀ i ys nw t t', J i ys nw t → t ≤ t' → J i ys nw t') (hJ : J 0 [] news s.toks)
    (turn : ∀ s' : Shared, (∃ h, s' = { s with heap := h }) → GTurn prog w A h₀ L m env elt target ifs scope cl s' n P J) (ht : ∀ v, letOwnedTupleGo target (.ref I) v = pure ())
    (fin : ∀ D h tk ys news', J n ys news' tk → Fr h₀ L h (mf D) → News h₀ L h ((D, LCg.lst ys) :: news') → LCg.Off1 D news' → Q (.ref D) { s with heap := h, toks := tk }) :
    CompAtM prog w A h₀ L m env elt target ifs scope cl mf Q (.ref I) { s with heap := s.heap.push o } := by
  subst hI
  refine ⟨_, _, n, _, _, fun _ => True, news, J, rfl, W, hsz, alive, (fun i h h' o nw a b c _ _ _ => hSt i h h' o a b c), (fun _ _ _ _ _ => trivial), hJl, hJt, hst, ?_, F.push _, (fun p hp => ⟨Heap.get?_push_of_some _ (N p hp).1, (N p hp).2⟩), Nat.ne_of_lt F.ns.lt, next_is_new F, (fun p hp => Nat.ne_of_lt (Heap.lt_size (N p hp).1)), hJ, turn _ ⟨_, rfl⟩, ht, fin⟩
  intro b hb
  rw [List.mem_singleton.mp hb]
  show s.heap.objs.size < (s.heap.push _).objs.size
  rw [Heap.size_push]; exact Nat.lt_succ_self _

theorem compM_list {ax : Addr} {vs : List Value} {elt target : Expr} {ifs : List Expr} {scope : Scope} {cl : List (Str × Addr)} {mf : Addr → Str → Option Value} {Q : Value → Shared → Prop} {news : List (Addr × Obj)} (J : Nat → List Value → List (Addr × Obj) → Nat → Prop)
    (hh : A.handled = none) (F : Fr h₀ L s.heap m) (N : News h₀ L s.heap news) (hJS : ∀ i ys nw t, J i ys nw t → LCg.SrcAt h₀ ax vs.toArray nw) (hsz : vs.length ≤ sizeLine)
    (hJl : ∀ i ys nw t, J i ys nw t → ys.length ≤ i) (hJt : ∀ i ys nw t t', J i ys nw t → t ≤ t' → J i ys nw t') (hJ : J 0 [] news s.toks)
    (turn : ∀ s' : Shared, (∃ h, s' = { s with heap := h }) → GTurn prog w A h₀ L m env elt target ifs scope cl s' vs.length (fun i v => vs[i]? = some v) J) (ht : ∀ I v, letOwnedTupleGo target (.ref I) v = pure ())
    (fin : ∀ D h tk ys news', J vs.length ys news' tk → Fr h₀ L h (mf D) → News h₀ L h ((D, LCg.lst ys) :: news') → LCg.Off1 D news' → Q (.ref D) { s with heap := h, toks := tk }) :
    wpAny (model prog w) A (pyIter (.ref ax)) (fun it s₂ => CompAtM prog w A h₀ L m env elt target ifs scope cl mf Q it s₂) E s := by
  have hl := (hJS _ _ _ _ hJ).list F.keep N
  have hlt : ax < s.heap.objs.size := by obtain ⟨_, e, _⟩ := hl; exact Heap.lt_size e
  refine wpAny_pyIter_list hl ?_
  have W := Walks.list (prog := prog) (w := w) hh s.heap.objs.size ax (Nat.ne_of_lt hlt) vs.toArray
  have e : vs.toArray.size = vs.length := by simp
  rw [e] at W
  refine ⟨_, _, vs.length, _, _, LCg.SrcAt h₀ ax vs.toArray, news, J, rfl, W, hsz, (fun i h st => by obtain ⟨o, e, _⟩ := st.1; exact ⟨o, e⟩), LCg.list_st, hJS, hJl, hJt, ⟨⟨_, Heap.get?_push_size _ rfl, rfl, rfl⟩, hl.push _⟩, ?_, F.push _, (fun p hp => ⟨Heap.get?_push_of_some _ (N p hp).1, (N p hp).2⟩), Nat.ne_of_lt F.ns.lt, next_is_new F, (fun p hp => Nat.ne_of_lt (Heap.lt_size (N p hp).1)), hJ, ?_, ht _, fin⟩
  · intro b hb
    show b < (s.heap.push _).objs.size
    rw [Heap.size_push]
    rcases List.mem_cons.mp hb with rfl | hb
    · exact Nat.lt_succ_self _
    · rw [List.mem_singleton.mp hb]; exact Nat.lt_succ_of_lt hlt
  · intro i v ys news I oI C oC D m' h t₀ tk E' hi hP
    exact turn _ ⟨_, rfl⟩ i v ys news I oI C oC D m' h t₀ tk E' hi (by simpa using hP)

theorem compM_range {r : Addr} {a b : Int} {t u v : Tok} {n : Nat} {elt target : Expr} {ifs : List Expr} {scope : Scope} {cl : List (Str × Addr)} {mf : Addr → Str → Option Value} {Q : Value → Shared → Prop} {news : List (Addr × Obj)} (J : Nat → List Value → List (Addr × Obj) → Nat → Prop)
    (hh : A.handled = none) (hr : IsRange s.heap r a b 1 t u v) (hsm : Builtin.Range.small a b 1 = true) (hn : Builtin.Range.rangeSize a b 1 = ((n : Nat) : Int)) (hsz : n ≤ sizeLine) (F : Fr h₀ L s.heap m) (N : News h₀ L s.heap news)
    (hJl : ∀ i ys nw t, J i ys nw t → ys.length ≤ i) (hJt : ∀ i ys nw t t', J i ys nw t → t ≤ t' → J i ys nw t') (hJ : J 0 [] news s.toks)
    (turn : ∀ s' : Shared, (∃ h, s' = { s with heap := h }) → GTurn prog w A h₀ L m env elt target ifs scope cl s' n (fun i v => ∃ t, v = .int (a + (i : Int)) t) J) (ht : ∀ I v, letOwnedTupleGo target (.ref I) v = pure ())
    (fin : ∀ D h tk ys news', J n ys news' tk → Fr h₀ L h (mf D) → News h₀ L h ((D, LCg.lst ys) :: news') → LCg.Off1 D news' → Q (.ref D) { s with heap := h, toks := tk }) :
    wpAny (model prog w) A (pyIter (.ref r)) (fun it s₂ => CompAtM prog w A h₀ L m env elt target ifs scope cl mf Q it s₂) E s := by
  refine wpAny_pyIter_range hr hsm ?_
  refine compM_walk J (LCg.range_walks hh a n) rfl hsz (fun i h st => ⟨_, st⟩) ?_ (by show IsRangeIter _ _ _ _ _; rw [hn]; simpa using Heap.get?_push_size _ rfl) F N hJl hJt hJ turn (ht _) fin
  intro i h h' o st e e'
  have st' : h.get? _ = some _ := st
  show h'.get? _ = some _
  rw [e', ← e]; exact st'

theorem compM_str {y : PySem.Str} {t : Tok} {elt target : Expr} {ifs : List Expr} {scope : Scope} {cl : List (Str × Addr)} {mf : Addr → Str → Option Value} {Q : Value → Shared → Prop} {news : List (Addr × Obj)} (J : Nat → List Value → List (Addr × Obj) → Nat → Prop)
    (hh : A.handled = none) (hsz : y.cps.size ≤ sizeLine) (F : Fr h₀ L s.heap m) (N : News h₀ L s.heap news)
    (hJl : ∀ i ys nw t, J i ys nw t → ys.length ≤ i) (hJt : ∀ i ys nw t t', J i ys nw t → t ≤ t' → J i ys nw t') (hJ : J 0 [] news s.toks)
    (turn : ∀ s' : Shared, (∃ h, s' = { s with heap := h }) → GTurn prog w A h₀ L m env elt target ifs scope cl s' y.cps.size (SignAt y) J) (ht : ∀ I v, letOwnedTupleGo target (.ref I) v = pure ())
    (fin : ∀ D h tk ys news', J y.cps.size ys news' tk → Fr h₀ L h (mf D) → News h₀ L h ((D, LCg.lst ys) :: news') → LCg.Off1 D news' → Q (.ref D) { s with heap := h, toks := tk }) :
    wpAny (model prog w) A (pyIter (.str y t)) (fun it s₂ => CompAtM prog w A h₀ L m env elt target ifs scope cl mf Q it s₂) E s := by
  cases ha : y.cps.all (· < 128)
  · refine wpAny_pyIter_wide ha ?_
    refine compM_walk J (Walks.strWide hh _ y t) rfl hsz (fun i h st => by obtain ⟨o, e, _⟩ := st; exact ⟨o, e⟩) ?_ ⟨_, Heap.get?_push_size _ rfl, rfl, rfl⟩ F N hJl hJt hJ turn (ht _) fin
    rintro i h h' o ⟨o', e, r⟩ e1 e2
    rw [e1] at e; cases e
    exact ⟨o, e2, r⟩
  · refine wpAny_pyIter_ascii ha ?_
    refine compM_walk J (Walks.strAscii hh _ y t) rfl hsz (fun i h st => by obtain ⟨o, e, _⟩ := st; exact ⟨o, e⟩) ?_ ⟨_, Heap.get?_push_size _ rfl, rfl, rfl⟩ F N hJl hJt hJ turn (ht _) fin
    rintro i h h' o ⟨o', e, r⟩ e1 e2
    rw [e1] at e; cases e
    exact ⟨o, e2, r⟩
theorem compM_intsT {ax : Addr} {vs : List Value} {ns : List Int} {elt : Expr} {x : Str} {px : Pos} {scope : Scope} {cl : List (Str × Addr)} {mf : Addr → Str → Option Value} {Q : Value → Shared → Prop} {news : List (Addr × Obj)} (g : Int → List Nat)
    (hx : scope.names.lookup x = some .local) (hkind : scope.kind = .function)
    (hh : A.handled = none) (F : Fr h₀ L s.heap m) (N : News h₀ L s.heap news) (S : LCg.SrcAt h₀ ax vs.toArray news) (hi : IntsAre vs ns) (hsz : ns.length ≤ sizeLine)
    (turn : ∀ (k : Int) (v : Value) (I : Addr) (oI : Obj) (C : Addr) (oC : Obj) (D : Addr) (m₂ : Str → Option Value) (ys : List Value) (h : Heap) (tk : Nat) (E' : Value → Shared → Prop), s.toks ≤ tk → k ∈ ns → (∃ u, v = .int k u) → LCg.NsObj oC m₂ → m₂ x = some v → Fr h₀ L h m → News h₀ L h ((I, oI) :: (C, oC) :: (D, LCg.lst ys) :: news) → LCg.Off3 I C D news → ((@Ne Nat I C) ∧ (@Ne Nat I D) ∧ (@Ne Nat C D)) →
      wpAny (model prog w) A (eval elt (compEnvC scope cl C env)) (CEndT h₀ L m { s with heap := h, toks := tk } ((I, oI) :: (C, oC) :: (D, LCg.lst ys) :: news) (fun t => .str (tx (g k)) t)) E' { s with heap := h, toks := tk })
    (fin : ∀ ys D h tk, All2 (fun k y => ∃ t, y = .str (tx (g k)) t ∧ s.toks ≤ t ∧ t < tk) ns ys → s.toks ≤ tk → Fr h₀ L h (mf D) → News h₀ L h ((D, LCg.lst ys) :: news) → LCg.Off1 D news → Q (.ref D) { s with heap := h, toks := tk }) :
    wpAny (model prog w) A (pyIter (.ref ax)) (fun it s₂ => CompAtM prog w A h₀ L m env elt (.Name x px) [] scope cl mf Q it s₂) E s := by
  have hlen : vs.length = ns.length := hi.length
  let J : Nat → List Value → List (Addr × Obj) → Nat → Prop := fun i ys nw tk => nw = news ∧ s.toks ≤ tk ∧ i ≤ ns.length ∧ All2 (fun k y => ∃ t, y = Value.str (tx (g k)) t ∧ s.toks ≤ t ∧ t < tk) (ns.take i) ys
  have mono : ∀ {l ys} {t t' : Nat}, t ≤ t' → All2 (fun k y => ∃ u, y = Value.str (tx (g k)) u ∧ s.toks ≤ u ∧ u < t) l ys → All2 (fun k y => ∃ u, y = Value.str (tx (g k)) u ∧ s.toks ≤ u ∧ u < t') l ys := by
    intro l ys t t' hle h
    induction h with
    | nil => exact .nil
    | cons h _ ih => obtain ⟨u, e, h1, h2⟩ := h; exact .cons ⟨u, e, h1, Nat.lt_of_lt_of_le h2 hle⟩ ih
  refine compM_list J hh F N ?_ (by rw [hlen]; exact hsz) ?_ ?_ ⟨rfl, Nat.le_refl _, Nat.zero_le _, .nil⟩ ?_ (fun _ _ => rfl) ?_
  · rintro i ys nw t ⟨rfl, _⟩; exact S
  · rintro i ys nw t ⟨_, _, hi', h⟩
    have := h.len
    rw [List.length_take] at this
    omega
  · rintro i ys nw t t' ⟨h1, h2, hi', h3⟩ hle
    exact ⟨h1, Nat.le_trans h2 hle, hi', mono hle h3⟩
  · rintro s' ⟨hp, rfl⟩
    refine gturn_name hx hkind ?_
    rintro i v ys news₁ I oI C oC D m₂ h t₀ tk E' hin hP ⟨rfl, hj1, hj2, hj3⟩ hle hC hx' F' N' off ne
    refine tests_nil ?_
    simp only [if_true]
    obtain ⟨k, u, e, hk⟩ := IntsAre.at hi i v hP
    refine wpAny_mono (turn k v I oI C oC D m₂ ys h tk E' (Nat.le_trans hj1 hle) (List.mem_of_getElem? hk) ⟨u, e⟩ hC hx' F' N' off ne) (fun y s₂ hq => ?_) fun _ _ e => e
    obtain ⟨h', tk', t, e', F₂, N₂, ey, h1, h2⟩ := hq
    have h1' : tk ≤ t := h1
    have h3' : t₀ ≤ t := Nat.le_trans hle h1'
    have h4' : t₀ ≤ tk' := Nat.le_trans h3' (Nat.le_of_lt h2)
    have h5' : i + 1 ≤ ns.length := by rw [hlen] at hin; exact hin
    refine ⟨h', tk', oC, m₂, news₁, e', F₂, N₂, off, hC, rfl, Nat.le_trans hj1 h4', h5', ?_⟩
    rw [List.take_add_one, hk]
    exact (mono h4' hj3).snoc ⟨t, ey, Nat.le_trans hj1 h3', h2⟩
  · rintro D h tk ys news' ⟨rfl, hj1, hj2, hj3⟩ F' N' o1
    rw [hlen, List.take_length] at hj3
    exact fin ys D h tk hj3 hj1 F' N' o1
theorem assign_stopM {elt target iter : Expr} {ifs : List Expr} {y : Str} {py : Pos} {scope : Scope} {cl : List (Str × Addr)} {pos spos : Pos} {Q : Flow → Shared → Prop} (F₀ : Fr h₀ L s.heap m) (hLe : env.locals = L)
    (hsw : swapsWith (.ListComp elt [⟨target, iter, ifs, 0⟩] scope pos) (some (.Name y py)) spos.line env = pure true)
    (hclos : closureFor scope env = pure cl) (hcell : ∀ z ∈ scope.names, z.2 ≠ .cell) (hkind : scope.kind = .function)
    (hnames : ∀ z ∈ scope.names, z.2 = .local → scope.names.lookup z.1 = some .local)
    (hy : env.kindOf y = some .local) (hp : (env.scope.kind == .class || (env.scope.kind == .module && env.locals != env.globals)) = false)
    (h : wpAny (model prog w) A (eval iter env) (fun xv s₁ => Stop (wpAny (model prog w) A (pyIter xv) (fun it s₂ => CompAtM prog w A h₀ L m env elt target ifs scope cl (fun D z => if z = y then some (.ref D) else m z) (fun _ s' => Q .next s') it s₂) E s₁)) E s)
    (hs : ∀ x, foldedSetIterable iter env x = pure x := by intro _; rfl) :
    wpAny (model prog w) A (exec (.Assign [.Name y py] (.ListComp elt [⟨target, iter, ifs, 0⟩] scope pos) spos) env) Q E s := by
  subst hLe
  rw [exec_Assign_Name_used _ _ _ _ hsw]
  refine wpAny_bind (wpAny_standAt (wpAny_bind ?_))
  show wpAny _ A (do let _ ← comprehension (.ListComp elt [⟨target, iter, ifs, 0⟩] scope pos) scope env _ (newList []) false (eval iter env) (some (assign (.Name y py) env))) _ _ s
  refine wpAny_bind (wpAny_mono (wpAny_comprehension_free (use := some (assign (.Name y py) env)) (Q := fun _ s' => Q .next s') rfl hs hclos hkind hnames
    (wpAny_mono h (fun xv s₁ h₁ => wpAny_mono h₁ (fun it s₂ h₂ => ?_) fun _ _ e => e) fun _ _ e => e)) (fun _ s' hq => wpAny_pure (wpAny_pure hq)) fun _ _ e => e)
  obtain ⟨I, fp, n, P, St, S, news, J, rfl, W, hsz, hIo, hSt, hJS, hJl, hJt, hst, hfp, F, N, hIL, hI₀, off, hJ, turn, ht, fin⟩ := h₂
  refine block_G J W hsz hIo hSt hJS hJl hJt hcell hkind hst hfp F N hIL hI₀ off hJ turn ht ?_
  intro D C h' tk m' ys news' F' N' o1 hn hC₀ hCL hCD offC hJn
  show wpAny _ A (assign (.Name y py) env (.ref D)) _ _ _
  refine wpAny_assign_Name (wpAny_storeName_local hy F'.ns (fun h₂ hn₂ hs₂ => ?_) hp)
  have hL₀ : h₀.get? env.locals = none := Heap.get?_none_of_le F'.above
  have F₂ : Fr h₀ env.locals h₂ (fun z => if z = y then some (.ref D) else m z) := ⟨hn₂, fun b o e => hs₂.extBut b o (fun q => by rw [q, hL₀] at e; cases e) (F'.keep b o e), F'.above⟩
  refine ⟨m', hn.sameBut hs₂ hCL, fun h'' hs'' => fin D h'' (tk + 1) ys news' (hJt _ _ _ _ _ hJn (Nat.le_succ _)) (F₂.change hs'' hCL hC₀) (fun p hp => ?_) o1⟩
  have z : h₂.get? p.1 = some p.2 := hs₂.extBut _ _ (N' p hp).2.1 (N' p hp).1
  refine ⟨hs''.extBut _ _ ?_ z, (N' p hp).2⟩
  rcases List.mem_cons.mp hp with rfl | hp
  · exact Ne.symm hCD
  · exact offC p hp
/-- over a list of texts, what is made of each is a value -/
theorem compM_strs {ax : Addr} {vs : List Value} {ns : List PySem.Str} {elt : Expr} {x : Str} {px : Pos} {scope : Scope} {cl : List (Str × Addr)} {mf : Addr → Str → Option Value} {Q : Value → Shared → Prop} {news : List (Addr × Obj)} (R : PySem.Str → Value → Prop)
    (hx : scope.names.lookup x = some .local) (hkind : scope.kind = .function)
    (hh : A.handled = none) (F : Fr h₀ L s.heap m) (N : News h₀ L s.heap news) (S : LCg.SrcAt h₀ ax vs.toArray news) (hi : StrsAre vs ns) (hsz : ns.length ≤ sizeLine)
    (turn : ∀ (k : PySem.Str) (v : Value) (I : Addr) (oI : Obj) (C : Addr) (oC : Obj) (D : Addr) (m₂ : Str → Option Value) (ys : List Value) (h : Heap) (tk : Nat) (E' : Value → Shared → Prop), k ∈ ns → (∃ u, v = .str k u) → LCg.NsObj oC m₂ → m₂ x = some v → Fr h₀ L h m → News h₀ L h ((I, oI) :: (C, oC) :: (D, LCg.lst ys) :: news) → LCg.Off3 I C D news → ((@Ne Nat I C) ∧ (@Ne Nat I D) ∧ (@Ne Nat C D)) →
      wpAny (model prog w) A (eval elt (compEnvC scope cl C env)) (CEnd h₀ L m { s with heap := h, toks := tk } ((I, oI) :: (C, oC) :: (D, LCg.lst ys) :: news) (R k)) E' { s with heap := h, toks := tk })
    (fin : ∀ ys D h tk, All2 R ns ys → Fr h₀ L h (mf D) → News h₀ L h ((D, LCg.lst ys) :: news) → LCg.Off1 D news → Q (.ref D) { s with heap := h, toks := tk }) :
    wpAny (model prog w) A (pyIter (.ref ax)) (fun it s₂ => CompAtM prog w A h₀ L m env elt (.Name x px) [] scope cl mf Q it s₂) E s := by
  have hlen : vs.length = ns.length := hi.length
  let J : Nat → List Value → List (Addr × Obj) → Nat → Prop := fun i ys nw tk => nw = news ∧ i ≤ ns.length ∧ All2 R (ns.take i) ys
  refine compM_list J hh F N ?_ (by rw [hlen]; exact hsz) ?_ ?_ ⟨rfl, Nat.zero_le _, .nil⟩ ?_ (fun _ _ => rfl) ?_
  · rintro i ys nw t ⟨rfl, _⟩; exact S
  · rintro i ys nw t ⟨_, hi', h⟩
    have := h.len
    rw [List.length_take] at this
    omega
  · rintro i ys nw t t' h hle; exact h
  · rintro s' ⟨hp, rfl⟩
    refine gturn_name hx hkind ?_
    rintro i v ys news₁ I oI C oC D m₂ h t₀ tk E' hin hP ⟨rfl, hj2, hj3⟩ hle hC hx' F' N' off ne
    refine tests_nil ?_
    simp only [if_true]
    obtain ⟨k, u, e, hk⟩ := StrsAre.item hi i v hP
    refine wpAny_mono (turn k v I oI C oC D m₂ ys h tk E' (List.mem_of_getElem? hk) ⟨u, e⟩ hC hx' F' N' off ne) (fun y s₂ hq => ?_) fun _ _ e => e
    obtain ⟨h', tk', e', F₂, N₂, hr⟩ := hq
    have h5' : i + 1 ≤ ns.length := by rw [hlen] at hin; exact hin
    refine ⟨h', tk', oC, m₂, news₁, e', F₂, N₂, off, hC, rfl, h5', ?_⟩
    rw [List.take_add_one, hk]
    exact hj3.snoc hr
  · rintro D h tk ys news' ⟨rfl, hj2, hj3⟩ F' N' o1
    rw [hlen, List.take_length] at hj3
    exact fin ys D h tk hj3 F' N' o1
end
end Mine

end
section
open PySem PySem.W PyProof.Rows PySem.Spec PySem.Calls
namespace Mine

theorem esc_fit {b : Array UInt8} (h : 2 * b.size ≤ sizeLine) : (⟨(esc (b.map UInt8.toNat).toList).toArray⟩ : PySem.Str).cps.size ≤ sizeLine := by
  have := esc_len (b.map UInt8.toNat).toList
  simp at this ⊢
  omega
theorem esc_b256 {b : Array UInt8} : ∀ c ∈ (⟨(esc (b.map UInt8.toNat).toList).toArray⟩ : PySem.Str).cps, c < 256 := by
  intro c hc
  refine esc_small (l := (b.map UInt8.toNat).toList) ?_ c (by simpa using hc)
  intro d hd
  have hd' : ∃ a, a ∈ b ∧ a.toNat = d := by simpa using hd
  obtain ⟨e, _, rfl⟩ := hd'
  exact e.toNat_lt
theorem octs_eq {b : Array UInt8} : (⟨(esc (b.map UInt8.toNat).toList).toArray⟩ : PySem.Str).cps.map Nat.toUInt8 = octs (esc (cpsOf b)) := by
  simp [octs, cpsOf]
local macro_rules | `(tactic| walk_at "call builtin:str.translate") => `(tactic| (k_here; (with_reducible show wpAny _ _ (call (Value.builtin "str.translate") [Value.str _ _, Value.ref _]) _ _ _); k_dflt (refine' tr_step ?k1 ?k2 ?k3 ?k4 ?k5 ?k6 ?k7 ?k8 ?_; (case k1 => k_asm); (case k2 => k_asm); (case k3 => k_asm); (case k4 => rfl); (case k5 => decide +kernel); (case k6 => rfl); (case k7 => rfl); (case k8 => first | assumption | (simp only [Array.size_map]; assumption)); k_whole); intro h' tk' t' F' N'))
local macro_rules | `(tactic| walk_at "getMethod str") => `(tactic| (k_here; first | refine gm_translate ?_ | refine gm_encode ?_))
local macro_rules | `(tactic| walk_at "call type:str") => `(tactic| (k_here; (with_reducible show wpAny _ _ (call (Value.type "str") [Value.bytes _ _, Value.str _ _]) _ _ _); refine str_latin1 (by omega) ?_; intro t' k'))
local macro_rules | `(tactic| walk_at "call builtin:str.encode") => `(tactic| (k_here; (with_reducible show wpAny _ _ (call (Value.builtin "str.encode") [Value.str _ _, Value.str _ _]) _ _ _); refine encode_call (esc_fit (by assumption)) esc_b256 ?_; intro t' k'))

theorem escape_str {w : World} {mean : ExcName → Option Value} {mg mb : Str → Option Value} (x : Str) (t : Tok) (news : List (Addr × Obj)) (hx : 2 * x.cps.size ≤ sizeLine) :
  Claim 1 Challenge.rw_dn0142_03.row.prog w (hd.heap_39 w.params) hd.view_39 (looseW hd.view_39 [Str.ofString "_special_chars_map"]) mean mg mb 26 news [.str x t] (fun t' => .str (tx (esc x.cps.toList)) t') := by
  w_top off
  k_fill
  dsimp only [Claim]
  intros
  rename_i hret
  refine wpAny_call ?_
  k_dflt cell_enter
  k_steps
  exact hret _ _ _ (by assumption) (by assumption)
theorem escape_bytes {w : World} {mean : ExcName → Option Value} {mg mb : Str → Option Value} (b : Array UInt8) (t : Tok) (news : List (Addr × Obj)) (hb : 2 * b.size ≤ sizeLine) :
  Claim 1 Challenge.rw_dn0142_03.row.prog w (hd.heap_39 w.params) hd.view_39 (looseW hd.view_39 [Str.ofString "_special_chars_map"]) mean mg mb 26 news [.bytes b t] (fun t' => .bytes (octs (esc (cpsOf b))) t') := by
  w_top off
  k_fill
  dsimp only [Claim]
  intros
  rename_i hret
  refine wpAny_call ?_
  k_dflt cell_enter
  k_steps
  rw [octs_eq]
  exact hret _ _ _ (by assumption) (by assumption)
end Mine

end
section
open PySem PySem.W PyProof.Rows PySem.Spec PySem.Calls
namespace Mine
theorem special_call {w : World} {mean : ExcName → Option Value} {mg mb : Str → Option Value} (c : Nat) (t : Tok) (news : List (Addr × Obj)):
  Claim 1 Challenge.rw_dn0142_03.row.prog w (hd.heap_39 w.params) hd.view_39 (looseW hd.view_39 [Str.ofString "_special_chars_map"]) mean mg mb 33 news [.str ⟨#[c]⟩ t] (fun _ => .bool (special c)) := by
  w_top off
  k_fill
  dsimp only [Claim]
  intros
  rename_i hret
  refine wpAny_call ?_
  k_dflt cell_enter
  k_steps
  all_goals (refine cb_retB hret ?_ (by assumption) (by first | assumption | exact Mine.News.tl (by assumption)))
  all_goals clear hret
  all_goals first | exact (special_iff.mpr (by omega)).symm | exact special_any (by omega)
end Mine

end
section
open PySem PySem.W PyProof.Rows PySem.Spec PySem.Calls
namespace Mine
theorem mod_eq (c : Nat) : (c : Int).fmod 256 = Int.ofNat (c % 256) := by
  rw [Int.fmod_eq_emod_of_nonneg _ (by decide)]; rfl
theorem sign_mod {c : Nat} {t : Tok} : ∃ t', Value.str ⟨#[((c : Int).fmod 256).toNat]⟩ t = .str (tx [c % 256]) t' := by
  refine ⟨t, ?_⟩
  rw [mod_eq]; rfl
theorem esc_flat (l : List Nat) : (l.map escC).flatten = esc l := by rw [esc, List.flatMap_def]
theorem esc_sum (l : List Nat) : ((l.map escC).map (·.length)).sum ≤ 2 * l.length := by
  induction l with
  | nil => simp
  | cons c l ih => have := escC_len c; simp only [List.map_cons, List.sum_cons, List.length_cons]; omega
theorem mod_small (l : List Nat) : ∀ c ∈ l.map (· % 256), c < 256 := by
  intro c hc
  obtain ⟨d, _, rfl⟩ := List.mem_map.mp hc
  exact Nat.mod_lt _ (by decide)
local macro_rules | `(tactic| k_all) => `(tactic| first | assumption | exact ne_allLt (by assumption) | exact ne_lt (by assumption))
local macro_rules | `(tactic| walk_at "eval ListComp") => `(tactic| (k_here; k_dflt (refine comp_stop (by k_asm) (by with_unfolding_all rfl) (by decide) (by rfl) (by decide) (by rfl) ?_)))
local macro_rules | `(tactic| walk_at "call ref") => `(tactic| (k_here; (with_reducible show wpAny _ _ (call (Value.ref 33) [Value.str _ _]) _ _ _); k_dflt (refine' claim_use (special_call _ _ _) ?k1 ?k2 ?k3 ?k4 ?k5 ?k6 ?k7 ?k8 ?_; (case k1 => k_asm); (case k2 => k_asm); (case k3 => k_asm); (case k4 => k_asm); (case k5 => k_asm); (case k6 => first | exact rfl | assumption); (case k7 => ktr_room); (case k8 => ktr_units)); intro t9 h9 tk9 F9 N9; (try dsimp only); (try k_fold)))
theorem esc_add {c : Nat} {t : Tok} (h : special c = true) : ∃ t', Value.str (Str.ofString "\\" ++ ⟨#[c]⟩) t = .str (tx (escC c)) t' := by
  refine ⟨t, ?_⟩
  rw [escC_sp h, ofString_bs]
  exact congrArg (fun x => Value.str x t) (tx_append [92] [c])
theorem esc_one {c : Nat} {t : Tok} (h : special c = false) : ∃ t', Value.str ⟨#[c]⟩ t = .str (tx (escC c)) t' := by
  refine ⟨t, ?_⟩
  rw [escC_no h]
local macro_rules | `(tactic| walk_at "call builtin:str.join") => `(tactic| (k_here; refine join_rule (ls := List.map escC _) (News.isList (by assumption) (.head _)) (All2.strs (by assumption)) (Nat.le_trans (esc_sum _) (by omega)) ?_; intro _ _))
theorem written_call {w : World} {mean : ExcName → Option Value} {mg mb : Str → Option Value} (l : List Nat) (t : Tok) (news : List (Addr × Obj)) (hl : l.length ≤ 100000) :
  Claim 2 Challenge.rw_dn0142_03.row.prog w (hd.heap_39 w.params) hd.view_39 (looseW hd.view_39 [Str.ofString "_special_chars_map"]) mean mg mb 45 news [.str (tx l) t] (fun t' => .str (tx (esc l)) t') := by
  w_top off
  k_fill
  dsimp only [Claim]
  intros
  rename_i hret
  refine wpAny_call ?_
  k_dflt cell_enter
  k_steps
  unfold Stop
  refine comp_tx (fun c y => ∃ t, y = .str (tx (escC c)) t) rfl (by assumption) (by assumption) (by rw [sizeLine_eq]; omega) ?turn ?fin
  case turn =>
    intro c v I oI C oC D m₂ ys h tk E' hc hv hC hx F N off ne
    obtain ⟨u, rfl⟩ := hv
    k_steps
    · exact CEnd.mk' (by assumption) (by assumption) (fun p hp => hp) (esc_add (by assumption))
    · exact CEnd.mk' (by assumption) (by assumption) (fun p hp => hp) (esc_one (by assumption))
  case fin =>
    intro ys D h tk hy F N off
    k_steps
    rw [esc_flat]
    exact hret _ _ _ (by assumption) (Mine.News.tl (by assumption))
end Mine

end
section
open PySem PySem.W PyProof.Rows PySem.Spec PySem.Calls
namespace Mine
local macro_rules | `(tactic| walk_at "no such key 0") => `(tactic| fail "x")
local macro_rules | `(tactic| walk_at "no such key 1") => `(tactic| fail "x")
theorem ints_mod {l : List Nat} {ys : List Value} (h : All2 (fun c y => ∃ t, y = Value.int (Int.ofNat (c % 256)) t) l ys) : IntsAre ys ((l.map (· % 256)).map Int.ofNat) := by
  have := h.ints
  rw [List.map_map]; exact this
theorem int_mod {c : Nat} {t : Tok} : ∃ t', Value.int ((c : Int).fmod 256) t = .int (Int.ofNat (c % 256)) t' := ⟨t, by rw [mod_eq]⟩
local macro_rules | `(tactic| k_all) => `(tactic| first | assumption | exact ne_allLt (by assumption) | exact ne_lt (by assumption))
local macro_rules | `(tactic| walk_at "eval ListComp") => `(tactic| (k_here; k_dflt (refine comp_stop (by k_asm) (by with_unfolding_all rfl) (by decide) (by rfl) (by decide) (by rfl) ?_)))
local macro_rules | `(tactic| walk_at "call type:bytes") => `(tactic| (k_here; refine bytes_rule (by assumption) (by assumption) rfl (News.isList (by assumption) (.head _)) (by exact ints_mod (by assumption)) (mod_small _) (by simp; omega) ?_; intro _ _ _ _ _))
local macro_rules | `(tactic| walk_at "call builtin:str.join") => `(tactic| (k_here; refine join_ones (News.isList (by assumption) (.head _)) (by assumption) (by omega) ?_; intro _ _))
theorem octets_call {w : World} {mean : ExcName → Option Value} {mg mb : Str → Option Value} (l : List Nat) (t : Tok) (news : List (Addr × Obj)) (hl : l.length ≤ 100000) :
  Claim 1 Challenge.rw_dn0142_03.row.prog w (hd.heap_39 w.params) hd.view_39 (looseW hd.view_39 [Str.ofString "_special_chars_map"]) mean mg mb 50 news [.str (tx l) t] (fun t' => .bytes (octs (l.map (· % 256))) t') := by
  w_top off
  k_fill
  dsimp only [Claim]
  intros
  rename_i hret
  refine wpAny_call ?_
  k_dflt cell_enter
  k_steps
  unfold Stop
  refine comp_tx (fun c y => ∃ t, y = .int (Int.ofNat (c % 256)) t) rfl (by assumption) (by assumption) (by rw [sizeLine_eq]; omega) ?turn ?fin
  case turn =>
    intro c v I oI C oC D m₂ ys h tk E' hc hv hC hx F N off ne
    obtain ⟨u, rfl⟩ := hv
    k_steps
    exact CEnd.mk' (by assumption) (by assumption) (fun p hp => hp) int_mod
  case fin =>
    intro ys D h tk hy F N off
    k_steps
    exact hret _ _ _ (by assumption) (Mine.News.tl (by assumption))
theorem low_call {w : World} {mean : ExcName → Option Value} {mg mb : Str → Option Value} (l : List Nat) (t : Tok) (news : List (Addr × Obj)) (hl : l.length ≤ 100000) :
  Claim 1 Challenge.rw_dn0142_03.row.prog w (hd.heap_39 w.params) hd.view_39 (looseW hd.view_39 [Str.ofString "_special_chars_map"]) mean mg mb 55 news [.str (tx l) t] (fun t' => .str (tx (l.map (· % 256))) t') := by
  w_top off
  k_fill
  dsimp only [Claim]
  intros
  rename_i hret
  refine wpAny_call ?_
  k_dflt cell_enter
  k_steps
  unfold Stop
  refine comp_tx (fun c y => ∃ t, y = .str (tx [c % 256]) t) rfl (by assumption) (by assumption) (by rw [sizeLine_eq]; omega) ?turn ?fin
  case turn =>
    intro c v I oI C oC D m₂ ys h tk E' hc hv hC hx F N off ne
    obtain ⟨u, rfl⟩ := hv
    k_steps
    exact CEnd.mk' (by assumption) (by assumption) (fun p hp => hp) sign_mod
  case fin =>
    intro ys D h tk hy F N off
    k_steps
    exact hret _ _ _ (by assumption) (Mine.News.tl (by assumption))
end Mine

end
section
open PySem PySem.W PyProof.Rows PySem.Spec PySem.Calls
namespace Mine
local macro_rules | `(tactic| walk_at "no such key 0") => `(tactic| fail "x")
local macro_rules | `(tactic| walk_at "no such key 1") => `(tactic| fail "x")
local macro_rules | `(tactic| walk_at "no such key 2") => `(tactic| fail "x")
def signOf (x : Int) : Nat := if x % 4 = 3 then (x / 4 % 55296).toNat else if x % 4 = 0 then 92 else if x % 4 = 1 then 46 else 97
local macro_rules | `(tactic| walk_at "binaryOp Mod int int") => `(tactic| (k_here; refine mod_valT (by assumption) (by decide) ?_))
local macro_rules | `(tactic| walk_at "execs cons") => `(tactic| (k_here; (with_reducible refine wpAny_execs_cons ?_); try dsimp only))
local macro_rules | `(tactic| walk_at "execs nil") => `(tactic| (k_here; refine wpAny_execs_nil ?_))
theorem fmod4 (x : Int) : x.fmod 4 = x % 4 := Int.fmod_eq_emod_of_nonneg _ (by decide)
theorem fdm (x m : Int) (h : 0 ≤ m) : (x.fdiv 4).fmod m = x / 4 % m := by
  rw [Int.fdiv_eq_ediv_of_nonneg _ (by decide)]; exact Int.fmod_eq_emod_of_nonneg _ h
theorem sg0 {x : Int} (h : x.fmod 4 = 0) : Txt.item (PySem.Str.ofString "\\.a") 0 = tx [signOf x] := by
  rw [fmod4] at h; unfold signOf; rw [if_neg (by omega), if_pos h]; decide +kernel
theorem sg1 {x : Int} (h : x.fmod 4 = 1) : Txt.item (PySem.Str.ofString "\\.a") 1 = tx [signOf x] := by
  rw [fmod4] at h; unfold signOf; rw [if_neg (by omega), if_neg (by omega), if_pos h]; decide +kernel
theorem sg2 {x : Int} (h : x.fmod 4 = 2) : Txt.item (PySem.Str.ofString "\\.a") 2 = tx [signOf x] := by
  rw [fmod4] at h; unfold signOf; rw [if_neg (by omega), if_neg (by omega), if_neg (by omega)]; decide +kernel
theorem sg3 {x : Int} (h : x.fmod 4 = 3) : (⟨#[((x.fdiv 4).fmod 55296).toNat]⟩ : PySem.Str) = tx [signOf x] := by
  rw [fmod4] at h; unfold signOf; rw [if_pos h, fdm _ _ (by decide)]
theorem sign_call {w : World} {mean : ExcName → Option Value} {mg mb : Str → Option Value} (x : Int) (t : Tok) (news : List (Addr × Obj)) :
  ClaimT 1 Challenge.rw_dn0142_03.row.prog w (hd.heap_39 w.params) hd.view_39 (looseW hd.view_39 [Str.ofString "_special_chars_map"]) mean mg mb 40 news [.int x t] (fun t' => .str (tx [signOf x]) t') := by
  w_top off
  k_fill
  have hk : x.fmod 4 = 0 ∨ x.fmod 4 = 1 ∨ x.fmod 4 = 2 ∨ x.fmod 4 = 3 := by rw [fmod4]; omega
  dsimp only [ClaimT]
  intros
  rename_i hret
  refine wpAny_call ?_
  k_dflt cell_enter
  rcases hk with hk | hk | hk | hk
  all_goals k_steps
  · exact retS_T hret (sg0 hk) (by first | omega | (simp; done) | (simp; omega)) (by first | omega | (simp; done) | (simp; omega)) (by assumption) (by assumption)
  · exact retS_T hret (sg1 hk) (by first | omega | (simp; done) | (simp; omega)) (by first | omega | (simp; done) | (simp; omega)) (by assumption) (by assumption)
  · exact retS_T hret (sg2 hk) (by first | omega | (simp; done) | (simp; omega)) (by first | omega | (simp; done) | (simp; omega)) (by assumption) (by assumption)
  · exact retS_T hret (sg3 hk) (by first | omega | (simp; done) | (simp; omega)) (by first | omega | (simp; done) | (simp; omega)) (by assumption) (by assumption)
end Mine

end
section
open PySem PySem.W PyProof.Rows PySem.Spec PySem.Calls
namespace Mine
theorem cut_mem {α : Type} [DecidableEq α] (s : List α) : ∀ (l : List α) (k : Nat), ∀ p ∈ cut s l k, ∀ x ∈ p, x ∈ l
  | [], _, p, hp, x, hx => by simp [cut] at hp; subst hp; simp at hx
  | c :: l, k + 1, p, hp, x, hx => List.mem_cons_of_mem _ (cut_mem s l k p hp x hx)
  | c :: l, 0, p, hp, x, hx => by
    unfold cut at hp
    split at hp
    · rcases List.mem_cons.mp hp with rfl | hp
      · simp at hx
      · exact List.mem_cons_of_mem _ (cut_mem s l _ p hp x hx)
    · cases hc : cut s l 0 with
      | nil => exact absurd hc (cut_ne s l 0)
      | cons y r =>
        rw [hc] at hp
        rcases List.mem_cons.mp hp with rfl | hp
        · rcases List.mem_append.mp hx with hx | hx
          · simp at hx; subst hx; exact List.mem_cons_self ..
          · exact List.mem_cons_of_mem _ (cut_mem s l 0 y (by rw [hc]; exact List.mem_cons_self ..) x hx)
        · exact List.mem_cons_of_mem _ (cut_mem s l 0 p (by rw [hc]; exact List.mem_cons_of_mem _ hp) x hx)
theorem cut_count {α : Type} [DecidableEq α] (s : List α) : ∀ (l : List α) (k : Nat), (cut s l k).length ≤ l.length + 1 ∧ ((cut s l k).map (·.length)).sum ≤ l.length
  | [], _ => by simp [cut]
  | c :: l, k + 1 => by have := cut_count s l k; show (cut s l k).length ≤ _ ∧ _ ≤ _; simp only [List.length_cons]; exact ⟨by omega, Nat.le_succ_of_le this.2⟩
  | c :: l, 0 => by
    unfold cut
    split
    · have := cut_count s l (s.length - 1)
      simp only [List.length_cons, List.map_cons, List.sum_cons, List.length_nil]
      omega
    · have := cut_count s l 0
      cases hc : cut s l 0 with
      | nil => exact absurd hc (cut_ne s l 0)
      | cons y r =>
        rw [hc] at this
        simp only [prep, List.length_cons, List.map_cons, List.sum_cons, List.length_append, List.length_nil] at this ⊢
        omega
theorem cut_part {s l p : List Nat} (h : p ∈ cut s l 0) : p.length ≤ l.length := by
  have h2 := (cut_count s l 0).2
  have : ∀ {ls : List (List Nat)}, p ∈ ls → p.length ≤ (ls.map (·.length)).sum := by
    intro ls
    induction ls with
    | nil => intro h; cases h
    | cons y r ih =>
      intro h
      simp only [List.map_cons, List.sum_cons]
      rcases List.mem_cons.mp h with rfl | h
      · omega
      · have := ih h; omega
  exact Nat.le_trans (this h) h2
theorem glue_len (n : List Nat) : ∀ ls : List (List Nat), (glue n ls).length ≤ (ls.map (·.length)).sum + ls.length * n.length
  | [] => by simp [glue]
  | [x] => by simp [glue]
  | x :: y :: r => by
    have := glue_len n (y :: r)
    show (x ++ n ++ glue n (y :: r)).length ≤ _
    simp only [List.length_append, List.map_cons, List.sum_cons, List.length_cons, Nat.add_mul, Nat.one_mul] at this ⊢
    omega
theorem glue_cut {s l n : List Nat} (hl : l.length ≤ 67) (hn : n.length ≤ 2) : (glue n (cut s l 0)).length ≤ 300 := by
  have h1 := glue_len n (cut s l 0)
  have h2 := cut_count s l 0
  have h3 : (cut s l 0).length * n.length ≤ 68 * 2 := Nat.mul_le_mul (by omega) hn
  omega
theorem small_mod {l : List Nat} (h : ∀ c ∈ l, c < 256) : l.map (· % 256) = l := by
  conv => rhs; rw [← List.map_id l]
  exact List.map_congr_left fun c hc => Nat.mod_eq_of_lt (h c hc)
/-- what a part of the cut text becomes, as octets -/
theorem bytes_cut {s l : List Nat} (hs : s ≠ []) (h1 : ∀ c ∈ s, c < 256) (h2 : ∀ c ∈ l, c < 256) : cut (octs (esc s)).toList (octs (esc l)).toList 0 = (cut s l 0).map (fun p => (octs (esc p)).toList) := by
  have e : ∀ l, (octs l).toList = l.map Nat.toUInt8 := by intro l; simp [octs]
  rw [e, e, cut_map, cut_esc hs, List.map_map]
  · apply List.map_congr_left
    intro p _
    simp [e]
  · intro a ha b hb hab
    have ha' := esc_small h1 a ha
    have hb' := esc_small h2 b hb
    have := congrArg UInt8.toNat hab
    simpa [Nat.mod_eq_of_lt ha', Nat.mod_eq_of_lt hb'] using this
theorem parts_bytes {ls : List (List Nat)} : ∀ {ys : List Value}, All2 (fun (k : PySem.Str) y => ∃ t, y = .bytes (octs (esc k.cps.toList)) t) (ls.map tx) ys → BytesAre ys (ls.map (fun p => (octs (esc p)).toList)) := by
  induction ls with
  | nil => intro ys h; cases h; exact .nil
  | cons p r ih =>
    intro ys h
    cases h with
    | cons h1 h2 => obtain ⟨t, rfl⟩ := h1; exact .cons _ t (ih h2)
theorem parts_strs {ls : List (List Nat)} : ∀ {ys : List Value}, All2 (fun (k : PySem.Str) y => ∃ t, y = .str (tx (esc k.cps.toList)) t) (ls.map tx) ys → StrsAre ys ((ls.map esc).map tx) := by
  induction ls with
  | nil => intro ys h; cases h; exact .nil
  | cons p r ih =>
    intro ys h
    cases h with
    | cons h1 h2 => obtain ⟨t, rfl⟩ := h1; exact .cons _ t (ih h2)
theorem pick_from (vs : List Value) : (slicePick vs.toArray (some 2) none none).toList = vs.drop 2 := by
  have e : sliceBounds (some 2) none none vs.toArray.size = (((min 2 vs.toArray.size : Nat) : Int), ((vs.toArray.size : Nat) : Int), 1) := by
    simp only [sliceBounds, Option.getD_none, show (1 : Int) > 0 by decide, if_true, if_neg (show ¬ ((2 : Int) < 0) by omega)]
    congr 1
    omega
  rw [kmk_pick_nat _ e]
  show (vs.drop (min 2 vs.toArray.size)).take (vs.toArray.size - min 2 vs.toArray.size) = _
  rw [List.size_toArray, kmk_drop_min, List.take_of_length_le (by rw [List.length_drop]; omega)]
theorem pick_upto (vs : List Value) : (slicePick vs.toArray none (some 2) none).toList = vs.take 2 := by
  have e : sliceBounds none (some 2) none vs.toArray.size = (((0 : Nat) : Int), ((min 2 vs.toArray.size : Nat) : Int), 1) := by
    simp only [sliceBounds, Option.getD_none, show (1 : Int) > 0 by decide, if_true, if_neg (show ¬ ((2 : Int) < 0) by omega)]
    congr 1
    congr 1
    omega
  rw [kmk_pick_nat _ e]
  show (vs.drop 0).take (min 2 vs.toArray.size - 0) = _
  rw [List.drop_zero, Nat.sub_zero, List.size_toArray, kmk_take_min]
section
variable {prog : Program} {w : World} {A : Around} {E : Value → Shared → Prop} {s : Shared} {Q : Value → Shared → Prop}
theorem joinsep_rule {D : Addr} {items : Array Value} {t : Tok} {n : List Nat} {ps : List (List Nat)} (hl : s.heap.IsList D items) (hi : StrsAre items.toList ((ps.map esc).map tx)) (hok : ((ps.map esc).map (·.length)).sum + ps.length * (esc n).length ≤ 16777216)
    (h : ∀ t' k, Q (.str (tx (esc (glue n ps))) t') { s with toks := k }) : wpAny (model prog w) A (call (.builtin "str.join") [.str (tx (esc n)) t, .ref D]) Q E s := by
  refine join_list hl hi ?_ fun t' k => ?_
  · rw [List.map_map]
    have : ((ps.map esc).map ((·.length) ∘ tx)) = (ps.map esc).map (·.length) := by
      apply List.map_congr_left; intro l _; exact tx_len l
    rw [this, tx_len, List.length_map, List.length_map]
    exact hok
  · rw [join_tx, ← esc_glue]; exact h t' k
theorem strs_drop {vs : List Value} {ss : List PySem.Str} (h : StrsAre vs ss) (n : Nat) : StrsAre (vs.drop n) (ss.drop n) := by
  induction h generalizing n with
  | nil => simpa using StrsAre.nil
  | cons y t h ih => cases n with
    | zero => exact .cons y t h
    | succ n => simpa using ih n
theorem strs_take {vs : List Value} {ss : List PySem.Str} (h : StrsAre vs ss) (n : Nat) : StrsAre (vs.take n) (ss.take n) := by
  induction h generalizing n with
  | nil => simpa using StrsAre.nil
  | cons y t h ih => cases n with
    | zero => exact .nil
    | succ n => simpa using StrsAre.cons y t (ih n)
/-- what is known of the signs drawn -/
def DrawnIs (g : Int → Nat) (ns : List Int) (ys : List Value) (a b : Nat) : Prop := All2 (fun k y => ∃ t, y = Value.str (tx [g k]) t ∧ a ≤ t ∧ t < b) ns ys
theorem DrawnIs.strs {g : Int → Nat} {ns : List Int} {ys : List Value} {a b : Nat} (h : DrawnIs g ns ys a b) : StrsAre ys ((ns.map (fun k => [g k])).map tx) := by
  unfold DrawnIs at h
  induction h with
  | nil => exact .nil
  | cons h _ ih => obtain ⟨t, rfl, _⟩ := h; exact .cons _ t ih
theorem DrawnIs.mem {g : Int → Nat} {ns : List Int} {ys : List Value} {a b : Nat} (h : DrawnIs g ns ys a b) {x : PySem.Str} {t : Tok} (hy : Value.str x t ∈ ys) : a ≤ t ∧ t < b := by
  unfold DrawnIs at h
  induction h with
  | nil => cases hy
  | cons h _ ih =>
    obtain ⟨u, rfl, h1, h2⟩ := h
    rcases List.mem_cons.mp hy with e | e
    · cases e; exact ⟨h1, h2⟩
    · exact ih e
theorem drawn_of {g : Int → Nat} {ns : List Int} {ys : List Value} {a b : Nat} (h : All2 (fun k y => ∃ t, y = Value.str (tx [g k]) t ∧ a ≤ t ∧ t < b) ns ys) (ha : 0 < a) : DrawnIs g ns ys 1 b := by
  unfold DrawnIs
  induction h with
  | nil => exact .nil
  | cons h _ ih => obtain ⟨t, e, h1, h2⟩ := h; exact .cons ⟨t, e, Nat.le_trans ha h1, h2⟩ ih
/-- the new text: the signs from the third on -/
theorem join_new {g : Int → Nat} {ns : List Int} {ys : List Value} {a b : Nat} {D : Addr} {t : Tok} (hl : s.heap.IsList D (ys.drop 2).toArray) (hy : DrawnIs g ns ys a b) (h4 : ns.length ≤ 4) (ha : 0 < a) (hab : a ≤ b) (hb : b ≤ s.toks)
    (h : ∀ n t' tk', n = (ns.drop 2).map g → n.length ≤ 2 → 0 < t' → t' < tk' → (ns.length ≤ 2 → b ≤ t') → b ≤ tk' → Q (.str (tx n) t') { s with toks := tk' }) :
    wpAny (model prog w) A (call (.builtin "str.join") [.str (PySem.Str.ofString "") t, .ref D]) Q E s := by
  have hyl : ys.length = ns.length := All2.len hy
  have hs := strs_drop hy.strs 2
  rw [← List.map_drop, ← List.map_drop] at hs
  refine join_T hl hs (by rw [sum_ones]; simp; omega) fun t' tk' hc => ?_
  rw [flat_ones]
  refine h _ t' tk' rfl (by simp; omega) ?_ ?_ ?_ ?_
  · rcases hc with ⟨x, e, _⟩ | ⟨_, e, _⟩
    · have hm : Value.str x t' ∈ ys := List.mem_of_mem_drop (i := 2) (by rw [e]; exact List.mem_cons_self ..)
      exact Nat.lt_of_lt_of_le ha (hy.mem hm).1
    · rw [e]; exact Nat.lt_of_lt_of_le ha (Nat.le_trans hab hb)
  · rcases hc with ⟨x, e, e2⟩ | ⟨_, e, e2⟩
    · have hm : Value.str x t' ∈ ys := List.mem_of_mem_drop (i := 2) (by rw [e]; exact List.mem_cons_self ..)
      rw [e2]; exact Nat.lt_of_lt_of_le (hy.mem hm).2 hb
    · rw [e, e2]; exact Nat.lt_succ_self _
  · intro hn
    rcases hc with ⟨x, e, e2⟩ | ⟨_, e, e2⟩
    · rw [List.drop_eq_nil_of_le (by omega)] at e; cases e
    · rw [e]; exact hb
  · rcases hc with ⟨x, e, e2⟩ | ⟨_, e, e2⟩
    · rw [e2]; exact hb
    · rw [e2]; exact Nat.le_succ_of_le hb
theorem ofString_dot : PySem.Str.ofString "." = tx [46] := by decide +kernel
theorem join_dot {D : Addr} {t t1 : Tok} (hl : s.heap.IsList D [Value.str (PySem.Str.ofString ".") t1].toArray) (h : Q (.str (tx [46]) t1) s) :
    wpAny (model prog w) A (call (.builtin "str.join") [.str (PySem.Str.ofString "") t, .ref D]) Q E s := by
  refine join_T (ls := [[46]]) hl (by rw [ofString_dot]; exact .cons _ _ .nil) (by decide) fun t' tk' hc => ?_
  rcases hc with ⟨x, e, e2⟩ | ⟨hl, _, _⟩
  · cases e; cases e2; exact h
  · exact absurd rfl hl
theorem join_dot' {D : Addr} {items : Array Value} {t t1 : Tok} (hl : s.heap.IsList D items) (e : items = #[Value.str (PySem.Str.ofString ".") t1]) (h : Q (.str (tx [46]) t1) s) :
    wpAny (model prog w) A (call (.builtin "str.join") [.str (PySem.Str.ofString "") t, .ref D]) Q E s := by
  subst e; exact join_dot hl h
theorem truthy_no {D : Addr} {vs : List Value} {Q : Bool → Shared → Prop} (hl : s.heap.IsList D vs.toArray) (e : vs = []) (h : Q false { s with toks := s.toks + 1 + 1 }) : wpAny (model prog w) A (truthy (.ref D)) Q E s := by
  subst e
  exact wpAny_truthy_list hl (by decide) h
theorem truthy_yes {D : Addr} {vs : List Value} {Q : Bool → Shared → Prop} (hl : s.heap.IsList D vs.toArray) (e : vs ≠ []) (hn : vs.length ≤ 100) (h : Q true { s with toks := s.toks + 1 + 1 }) : wpAny (model prog w) A (truthy (.ref D)) Q E s := by
  refine wpAny_truthy_list hl (by simp; omega) ?_
  have : vs.toArray.isEmpty = false := by simpa using e
  rw [this]; exact h
/-- the three texts to look for -/
def Soughts (v : Nat) (vs : List Value) : Prop := ∀ x ∈ vs, ∃ l u, x = Value.str (tx l) u ∧ l ≠ [] ∧ l.length ≤ 2 ∧ u ≠ 0 ∧ u ≠ v
theorem soughts_of {v t1 t2 t3 : Nat} {n : List Nat} (h1 : v < t1) (h2 : v < t2) (hn : n ≠ []) (hn2 : n.length ≤ 2) (h30 : t3 ≠ 0) (h3 : t3 ≠ v) : Soughts v [.str (PySem.Str.ofString "\\\\") t1, .str (PySem.Str.ofString "\\.") t2, .str (tx n) t3] := by
  have e1 : PySem.Str.ofString "\\\\" = tx [92, 92] := by decide +kernel
  have e2 : PySem.Str.ofString "\\." = tx [92, 46] := by decide +kernel
  intro x hx
  rcases List.mem_cons.mp hx with rfl | hx
  · exact ⟨[92, 92], t1, by rw [e1], by decide, by decide, Nat.ne_of_gt (Nat.lt_of_le_of_lt (Nat.zero_le _) h1), Nat.ne_of_gt h1⟩
  rcases List.mem_cons.mp hx with rfl | hx
  · exact ⟨[92, 46], t2, by rw [e2], by decide, by decide, Nat.ne_of_gt (Nat.lt_of_le_of_lt (Nat.zero_le _) h2), Nat.ne_of_gt h2⟩
  rcases List.mem_cons.mp hx with rfl | hx
  · exact ⟨n, t3, rfl, hn, hn2, h30, h3⟩
  · cases hx
theorem rep_fit {l n : List Nat} (hl : l.length ≤ 67) (hn : n.length ≤ 2) : l.length + (l.length + 1) * n.length ≤ 16777216 := by
  have : (l.length + 1) * n.length ≤ 68 * 2 := Nat.mul_le_mul (by omega) hn
  omega
theorem sum_esc : ∀ ps : List (List Nat), ((ps.map esc).map (·.length)).sum ≤ 2 * (ps.map (·.length)).sum
  | [] => by simp
  | p :: r => by
    have h1 := esc_len p
    have h2 := sum_esc r
    simp only [List.map_cons, List.sum_cons] at h2 ⊢
    omega
theorem sep_fit {S l n : List Nat} (hl : l.length ≤ 67) (hn : n.length ≤ 2) : (((cut S l 0).map esc).map (·.length)).sum + (cut S l 0).length * (esc n).length ≤ 16777216 := by
  have h1 := sum_esc (cut S l 0)
  have h2 := cut_count S l 0
  have h3 := esc_len n
  have h4 : (cut S l 0).length * (esc n).length ≤ 68 * 4 := Nat.mul_le_mul (by omega) (by omega)
  omega
theorem octs_ne {l : List Nat} (h : l ≠ []) : (octs (esc l)).toList ≠ [] := by
  intro e
  have e' : (esc l).map Nat.toUInt8 = [] := by simpa [octs] using e
  exact h (esc_nil_iff.mp (List.map_eq_nil_iff.mp e'))
theorem map_ne {l : List Nat} {f : Nat → Nat} (h : l ≠ []) : l.map f ≠ [] := fun e => h (List.map_eq_nil_iff.mp e)
theorem esc_ne {l : List Nat} (h : l ≠ []) : esc l ≠ [] := fun e => h (esc_nil_iff.mp e)
theorem octs_size {l : List Nat} (h : l.length ≤ 67) : (octs (esc l)).size + 2 ≤ sizeLine := by
  have := esc_len l
  rw [sizeLine_eq]; simp [octs]; omega
/-- the cuts of what is written, and what is written of the cuts -/
theorem cuts_same {S l : List Nat} {vs : List Value} (hS : S ≠ []) (h : StrsAre vs ((cut (esc S) (esc l) 0).map tx)) : StrsAre vs (((cut S l 0).map esc).map tx) := by rw [cut_esc hS] at h; exact h
theorem bcuts_same {S l : List Nat} {vs : List Value} (hS : S ≠ []) (h1 : ∀ c ∈ S, c < 256) (h2 : ∀ c ∈ l, c < 256) (h : BytesAre vs (cut (octs (esc S)).toList (octs (esc l)).toList 0)) : BytesAre vs ((cut S l 0).map (fun p => (octs (esc p)).toList)) := by rw [bytes_cut hS h1 h2] at h; exact h
def InvS : Inv := fun m₀ nw₀ _ m nw => nw = nw₀ ∧ ∃ a b c, m = fun y => if y = Str.ofString "sought" then a else if y = Str.ofString "parts" then b else if y = Str.ofString "cuts" then c else m₀ y
theorem invS_start {m₀ : Str → Option Value} {nw : List (Addr × Obj)} : InvS m₀ nw 0 m₀ nw := by
  refine ⟨rfl, m₀ (Str.ofString "sought"), m₀ (Str.ofString "parts"), m₀ (Str.ofString "cuts"), ?_⟩
  funext y
  by_cases h1 : y = Str.ofString "sought"
  · simp [h1]
  · by_cases h2 : y = Str.ofString "parts"
    · subst h2; simp [h1]
    · by_cases h3 : y = Str.ofString "cuts"
      · subst h3; simp [h1, h2]
      · simp [h1, h2, h3]
theorem mapS {m₀ : Str → Option Value} {a b c v0 v1 v2 : Option Value} : (fun y => if y = Str.ofString "cuts" then v2 else if y = Str.ofString "parts" then v1 else if y = Str.ofString "sought" then v0 else (fun y => if y = Str.ofString "sought" then a else if y = Str.ofString "parts" then b else if y = Str.ofString "cuts" then c else m₀ y) y) =
    fun y => if y = Str.ofString "sought" then v0 else if y = Str.ofString "parts" then v1 else if y = Str.ofString "cuts" then v2 else m₀ y := by
  have d1 : Str.ofString "cuts" ≠ Str.ofString "parts" := by decide
  have d2 : Str.ofString "cuts" ≠ Str.ofString "sought" := by decide
  have d3 : Str.ofString "parts" ≠ Str.ofString "sought" := by decide
  funext y
  by_cases h1 : y = Str.ofString "cuts"
  · subst h1; simp [d1, d2]
  · by_cases h2 : y = Str.ofString "parts"
    · subst h2; simp [h1, d3]
    · by_cases h3 : y = Str.ofString "sought"
      · subst h3; simp [h1, h2]
      · simp [h1, h2, h3]
theorem turn_end03 {h₀ h' : Heap} {L : Addr} {m₀ : Str → Option Value} {i : Nat} {a b c v0 v1 v2 : Option Value} {I ax : Addr} {oI oA : Obj} {nw all : List (Addr × Obj)} {s₁ : Shared} {tk : Nat} {Q : Flow → Shared → Prop}
    (F : Fr h₀ L h' (fun y => if y = Str.ofString "cuts" then v2 else if y = Str.ofString "parts" then v1 else if y = Str.ofString "sought" then v0 else if y = Str.ofString "sought" then a else if y = Str.ofString "parts" then b else if y = Str.ofString "cuts" then c else m₀ y))
    (N : News h₀ L h' all) (sub : ∀ p ∈ (I, oI) :: (ax, oA) :: nw, p ∈ all) (off : ∀ p ∈ (ax, oA) :: nw, p.1 ≠ I) :
    TPost h₀ L (fun m nw' => ∃ nw'', nw' = (ax, oA) :: nw'' ∧ InvS m₀ nw (i + 1) m nw'') I oI s₁ Q .next { s₁ with heap := h', toks := tk } :=
  TPost.next (TEnd.mk' F N sub off ⟨nw, rfl, rfl, v0, v1, v2, mapS⟩)
/-- the third text to look for: of the first two signs -/
theorem join_sought {g : Int → Nat} {ns : List Int} {ys : List Value} {a b v : Nat} {D : Addr} {t : Tok} (hl : s.heap.IsList D (ys.take 2).toArray) (hy : DrawnIs g ns ys a b) (ha : 0 < a) (hab : a ≤ b) (hb : b ≤ s.toks) (hne : ns ≠ []) (hv : v < s.toks) (hv2 : ns.length ≤ 2 → b ≤ v)
    (h : ∀ n t' tk', n ≠ [] → n.length ≤ 2 → t' ≠ 0 → t' ≠ v → Q (.str (tx n) t') { s with toks := tk' }) :
    wpAny (model prog w) A (call (.builtin "str.join") [.str (PySem.Str.ofString "") t, .ref D]) Q E s := by
  have hyl : ys.length = ns.length := All2.len hy
  have hs := strs_take hy.strs 2
  rw [← List.map_take, ← List.map_take] at hs
  refine join_T hl hs (by rw [sum_ones]; simp; omega) fun t' tk' hc => ?_
  rw [flat_ones]
  have hpos : 0 < ns.length := List.length_pos_iff.mpr hne
  refine h _ t' tk' ?_ (by simp; omega) ?_ ?_
  · intro e
    have h0 := congrArg List.length e
    rw [List.length_map, List.length_take, List.length_nil] at h0
    omega
  · rcases hc with ⟨x, e, _⟩ | ⟨_, e, _⟩
    · have hm : Value.str x t' ∈ ys := List.mem_of_mem_take (i := 2) (by rw [e]; exact List.mem_cons_self ..)
      exact Nat.ne_of_gt (Nat.lt_of_lt_of_le ha (hy.mem hm).1)
    · rw [e]; exact Nat.ne_of_gt (Nat.lt_of_lt_of_le ha (Nat.le_trans hab hb))
  · rcases hc with ⟨x, e, e2⟩ | ⟨_, e, e2⟩
    · have hm : Value.str x t' ∈ ys := List.mem_of_mem_take (i := 2) (by rw [e]; exact List.mem_cons_self ..)
      have h1 := congrArg List.length e
      rw [List.length_take] at h1
      have h2 : ns.length ≤ 2 := by simp at h1; omega
      exact Nat.ne_of_lt (Nat.lt_of_lt_of_le (hy.mem hm).2 (hv2 h2))
    · rw [e]; exact Nat.ne_of_gt hv
end
end Mine

end
section
open PySem PySem.W PyProof.Rows PySem.Spec PySem.Calls
namespace Mine
theorem escape_tx {w : World} {mean : ExcName → Option Value} {mg mb : Str → Option Value} (l : List Nat) (t : Tok) (news : List (Addr × Obj)) (hx : l.length ≤ 100000) :
  Claim 1 Challenge.rw_dn0142_03.row.prog w (hd.heap_39 w.params) hd.view_39 (looseW hd.view_39 [Str.ofString "_special_chars_map"]) mean mg mb 26 news [.str (tx l) t] (fun t' => .str (tx (esc l)) t') :=
  escape_str (tx l) t news (by rw [sizeLine_eq]; simp; omega)
theorem escape_octs {w : World} {mean : ExcName → Option Value} {mg mb : Str → Option Value} (l : List Nat) (t : Tok) (news : List (Addr × Obj)) (hs : ∀ c ∈ l, c < 256) (hx : l.length ≤ 100000) :
  Claim 1 Challenge.rw_dn0142_03.row.prog w (hd.heap_39 w.params) hd.view_39 (looseW hd.view_39 [Str.ofString "_special_chars_map"]) mean mg mb 26 news [.bytes (octs l) t] (fun t' => .bytes (octs (esc l)) t') := by
  have := escape_bytes (w := w) (mean := mean) (mg := mg) (mb := mb) (octs l) t news (by rw [sizeLine_eq]; simp [octs]; omega)
  rw [cpsOf_octs hs] at this
  exact this
theorem octets_small {w : World} {mean : ExcName → Option Value} {mg mb : Str → Option Value} (l : List Nat) (t : Tok) (news : List (Addr × Obj)) (hs : ∀ c ∈ l, c < 256) (hl : l.length ≤ 100000) :
  Claim 1 Challenge.rw_dn0142_03.row.prog w (hd.heap_39 w.params) hd.view_39 (looseW hd.view_39 [Str.ofString "_special_chars_map"]) mean mg mb 50 news [.str (tx l) t] (fun t' => .bytes (octs l) t') := by
  have := octets_call (w := w) (mean := mean) (mg := mg) (mb := mb) l t news hl
  rw [small_mod hs] at this
  exact this
theorem All2.imp {α β : Type} {R S : α → β → Prop} (f : ∀ a b, R a b → S a b) : ∀ {l : List α} {r : List β}, All2 R l r → All2 S l r
  | _, _, .nil => .nil
  | _, _, .cons h t => .cons (f _ _ h) (t.imp f)
theorem all2_T {g : Int → List Nat} {a b : Nat} {ns : List Int} {ys : List Value} (h : All2 (fun k y => ∃ t, y = Value.str (tx (g k)) t ∧ a ≤ t ∧ t < b) ns ys) : All2 (fun k y => ∃ t, y = Value.str (tx (g k)) t) ns ys := h.imp fun _ _ ⟨t, e, _⟩ => ⟨t, e⟩
def dk : Prop := ∀ n : Nat, n = n
theorem stop_open {P : Prop} (h : P) : Stop P := h
theorem no_bne {x : PySem.Str} (h : (x != x) = true) : False := by simp at h
theorem stop_any {P : Prop} (h : Stop P) : P := h
local macro_rules | `(tactic| k_all) => `(tactic| first | assumption | exact ne_allLt (by assumption) | exact ne_lt (by assumption))
local macro_rules | `(tactic| walk_at "eval ListComp") => `(tactic| (k_here; k_dflt (refine comp_stop (by k_asm) (by with_unfolding_all rfl) (by decide) (by rfl) (by decide) (by rfl) ?_)))
local macro_rules | `(tactic| walk_at "call ref") => `(tactic| (k_here; (with_reducible show wpAny _ _ (call (Value.ref 40) [Value.int _ _]) _ _ _); k_dflt (refine' claimT_use (sign_call _ _ _) ?k1 ?k2 ?k3 ?k4 ?k5 ?k6 ?k7 ?k8 ?_; (case k1 => k_asm); (case k2 => k_asm); (case k3 => k_asm); (case k4 => k_asm); (case k5 => k_asm); (case k6 => first | exact rfl | assumption); (case k7 => first | k_room | ktr_room); (case k8 => first | k_units | ktr_units)); intro t9 h9 tk9 le9 lt9 F9 N9; (try dsimp only at le9); (try dsimp only); (try k_fold)))
local macro_rules | `(tactic| walk_at "call ref") => `(tactic| (k_here; (with_reducible show wpAny _ _ (call (Value.ref 26) [Value.str _ _]) _ _ _); k_dflt (refine' claim_use (escape_tx _ _ _ (by (first | (first | assumption | omega | (simp only [List.length_append, List.length_map, List.length_cons, List.length_nil, List.length_take]; omega)) | exact Nat.le_trans (glue_cut (by assumption) (by assumption)) (by decide) | (refine Nat.le_trans (esc_len _) ?_; (first | assumption | omega | (simp only [List.length_append, List.length_map, List.length_cons, List.length_nil, List.length_take]; omega)))))) ?k1 ?k2 ?k3 ?k4 ?k5 ?k6 ?k7 ?k8 ?_; (case k1 => k_asm); (case k2 => k_asm); (case k3 => k_asm); (case k4 => k_asm); (case k5 => k_asm); (case k6 => first | exact rfl | assumption); (case k7 => first | k_room | ktr_room); (case k8 => first | k_units | ktr_units)); intro t9 h9 tk9 F9 N9; (try dsimp only); (try k_fold)))
local macro_rules | `(tactic| walk_at "call ref") => `(tactic| (k_here; (with_reducible show wpAny _ _ (call (Value.ref 26) [Value.bytes _ _]) _ _ _); k_dflt (refine' claim_use (escape_octs _ _ _ (by (first | assumption | exact esc_small (by assumption) | exact mod_small _ | exact esc_small (mod_small _))) (by (first | (first | assumption | omega | (simp only [List.length_append, List.length_map, List.length_cons, List.length_nil, List.length_take]; omega)) | exact Nat.le_trans (glue_cut (by assumption) (by assumption)) (by decide) | (refine Nat.le_trans (esc_len _) ?_; (first | assumption | omega | (simp only [List.length_append, List.length_map, List.length_cons, List.length_nil, List.length_take]; omega)))))) ?k1 ?k2 ?k3 ?k4 ?k5 ?k6 ?k7 ?k8 ?_; (case k1 => k_asm); (case k2 => k_asm); (case k3 => k_asm); (case k4 => k_asm); (case k5 => k_asm); (case k6 => first | exact rfl | assumption); (case k7 => first | k_room | ktr_room); (case k8 => first | k_units | ktr_units)); intro t9 h9 tk9 F9 N9; (try dsimp only); (try k_fold)))
local macro_rules | `(tactic| walk_at "call ref") => `(tactic| (k_here; (with_reducible show wpAny _ _ (call (Value.ref 45) [Value.str _ _]) _ _ _); k_dflt (refine' claim_use (written_call _ _ _ (by (first | (first | assumption | omega | (simp only [List.length_append, List.length_map, List.length_cons, List.length_nil, List.length_take]; omega)) | exact Nat.le_trans (glue_cut (by assumption) (by assumption)) (by decide) | (refine Nat.le_trans (esc_len _) ?_; (first | assumption | omega | (simp only [List.length_append, List.length_map, List.length_cons, List.length_nil, List.length_take]; omega)))))) ?k1 ?k2 ?k3 ?k4 ?k5 ?k6 ?k7 ?k8 ?_; (case k1 => k_asm); (case k2 => k_asm); (case k3 => k_asm); (case k4 => k_asm); (case k5 => k_asm); (case k6 => first | exact rfl | assumption); (case k7 => first | k_room | ktr_room); (case k8 => first | k_units | ktr_units)); intro t9 h9 tk9 F9 N9; (try dsimp only); (try k_fold)))
local macro_rules | `(tactic| walk_at "call ref") => `(tactic| (k_here; (with_reducible show wpAny _ _ (call (Value.ref 50) [Value.str _ _]) _ _ _); k_dflt ((first | refine' claim_use (octets_small _ _ _ (by (first | assumption | exact esc_small (by assumption) | exact mod_small _ | exact esc_small (mod_small _))) (by (first | (first | assumption | omega | (simp only [List.length_append, List.length_map, List.length_cons, List.length_nil, List.length_take]; omega)) | exact Nat.le_trans (glue_cut (by assumption) (by assumption)) (by decide) | (refine Nat.le_trans (esc_len _) ?_; (first | assumption | omega | (simp only [List.length_append, List.length_map, List.length_cons, List.length_nil, List.length_take]; omega)))))) ?k1 ?k2 ?k3 ?k4 ?k5 ?k6 ?k7 ?k8 ?_ | refine' claim_use (octets_call _ _ _ (by (first | (first | assumption | omega | (simp only [List.length_append, List.length_map, List.length_cons, List.length_nil, List.length_take]; omega)) | exact Nat.le_trans (glue_cut (by assumption) (by assumption)) (by decide) | (refine Nat.le_trans (esc_len _) ?_; (first | assumption | omega | (simp only [List.length_append, List.length_map, List.length_cons, List.length_nil, List.length_take]; omega)))))) ?k1 ?k2 ?k3 ?k4 ?k5 ?k6 ?k7 ?k8 ?_); (case k1 => k_asm); (case k2 => k_asm); (case k3 => k_asm); (case k4 => k_asm); (case k5 => k_asm); (case k6 => first | exact rfl | assumption); (case k7 => first | k_room | ktr_room); (case k8 => first | k_units | ktr_units)); intro t9 h9 tk9 F9 N9; (try dsimp only); (try k_fold)))
local macro_rules | `(tactic| walk_at "call ref") => `(tactic| (k_here; (with_reducible show wpAny _ _ (call (Value.ref 55) [Value.str _ _]) _ _ _); k_dflt (refine' claim_use (low_call _ _ _ (by (first | (first | assumption | omega | (simp only [List.length_append, List.length_map, List.length_cons, List.length_nil, List.length_take]; omega)) | exact Nat.le_trans (glue_cut (by assumption) (by assumption)) (by decide) | (refine Nat.le_trans (esc_len _) ?_; (first | assumption | omega | (simp only [List.length_append, List.length_map, List.length_cons, List.length_nil, List.length_take]; omega)))))) ?k1 ?k2 ?k3 ?k4 ?k5 ?k6 ?k7 ?k8 ?_; (case k1 => k_asm); (case k2 => k_asm); (case k3 => k_asm); (case k4 => k_asm); (case k5 => k_asm); (case k6 => first | exact rfl | assumption); (case k7 => first | k_room | ktr_room); (case k8 => first | k_units | ktr_units)); intro t9 h9 tk9 F9 N9; (try dsimp only); (try k_fold)))
theorem text_eq {l : List Nat} : (tx l).cps.toList ++ (PySem.Str.ofString "\\\\.a").cps.toList = l ++ [92, 92, 46, 97] := by
  have : (PySem.Str.ofString "\\\\.a").cps.toList = [92, 92, 46, 97] := by decide +kernel
  rw [this]
theorem add_text {prog : Program} {w : World} {A : Around} {E : Value → Shared → Prop} {s : Shared} {Q : Value → Shared → Prop} {l : List Nat} {t u : Tok} (hl : l.length ≤ 63) (h : ∀ t' k T, T = l ++ [92, 92, 46, 97] → T.length ≤ 67 → Q (.str (tx T) t') { s with toks := k }) : wpAny (model prog w) A (binaryOp .Add (.str (tx l) t) (.str (PySem.Str.ofString "\\\\.a") u)) Q E s := by
  have e : (PySem.Str.ofString "\\\\.a").cps.size = 4 := by decide +kernel
  refine add_rule (by rw [sizeLine_eq, e]; simp; omega) fun t' k => ?_
  rw [text_eq]
  exact h t' k _ rfl (by simp; omega)
local macro_rules | `(tactic| walk_at "exec For Name List cons nil") => `(tactic| (k_here; (rename Fr _ _ _ _ => lF'); (with_unfolding_all refine' stop_For lF' ?k1 ?k2 ?_; (case k1 => exact rfl); (case k2 => exact rfl); k_whole)))
local macro_rules | `(tactic| walk_at "binaryOp Add str str") => `(tactic| (k_here; refine add_text (by (first | (first | assumption | omega | (simp only [List.length_append, List.length_map, List.length_cons, List.length_nil, List.length_take]; omega)) | exact Nat.le_trans (glue_cut (by assumption) (by assumption)) (by decide) | (refine Nat.le_trans (esc_len _) ?_; (first | assumption | omega | (simp only [List.length_append, List.length_map, List.length_cons, List.length_nil, List.length_take]; omega))))) ?_; intro _ _ T eT hT))
local macro_rules | `(tactic| walk_at "truthy ref") => `(tactic| (k_here; refine stop_any ?_))
local macro_rules | `(tactic| walk_at "call builtin:str.join") => `(tactic| (k_here; (have _h : dk := fun n => Eq.refl n); refine stop_any ?_))
local macro_rules | `(tactic| walk_at "call builtin:str.join") => `(tactic| (k_here; refine join_ones (News.isList (by assumption) (.head _)) (by assumption) (by first | assumption | (simp; omega)) ?_; intro _ _))
local macro_rules | `(tactic| walk_at "execs cons") => `(tactic| (k_here; (with_reducible refine execs_consT ?_); try dsimp only))
local macro_rules | `(tactic| walk_at "execs nil") => `(tactic| (k_here; refine wpAny_execs_nil ?_))
local macro_rules | `(tactic| walk_at "exec Assign cons ListComp") => `(tactic| (k_here; k_dflt (refine assign_stopM (by k_asm) (by rfl) (by with_unfolding_all rfl) (by with_unfolding_all rfl) (by decide) (by rfl) (by decide) (by rfl) (by rfl) ?_)))
local macro_rules | `(tactic| walk_at "subscriptTail Name Slice ref ref") => `(tactic| (k_here; (with_reducible show wpAny _ _ (subscriptTail _ (PySem.Expr.Slice _ _ none _) (Value.ref _) (Value.ref _)) _ _ _); k_dflt (refine' kmk_slice_lit ?F ?N ?l ?p ?q ?e ?_ ?s ?t ?z; (case F => k_asm); (case N => k_asm); (case l => kmk_list); (case p => kmk_part); (case q => kmk_part); (case e => first | exact pick_from _ | exact pick_upto _); (case s => with_unfolding_all rfl); (case t => kmk_pure); (case z => (rw [sizeLine_eq]; simp only [List.size_toArray]; omega))); intro D' h' F' N' l1; (try k_lt l1); (try k_sweep)))
local macro_rules | `(tactic| walk_at "call builtin:str.join") => `(tactic| (k_here; with_unfolding_all (refine join_dot' (News.isList (by assumption) (.head _)) rfl ?_)))
local macro_rules | `(tactic| walk_at "call builtin:str.split") => `(tactic| (k_here; (with_reducible show wpAny _ _ (call (Value.builtin "str.split") [Value.str _ _, Value.str _ _]) _ _ _); refine split_rule (by assumption) (by assumption) (by (first | assumption | exact esc_ne (by assumption) | exact map_ne (by assumption) | exact esc_ne (map_ne (by assumption)))) (by (rw [sizeLine_eq]; first | (first | (first | assumption | omega | (simp only [List.length_append, List.length_map, List.length_cons, List.length_nil, List.length_take]; omega)) | exact Nat.le_trans (glue_cut (by assumption) (by assumption)) (by decide) | (refine Nat.le_trans (esc_len _) ?_; (first | assumption | omega | (simp only [List.length_append, List.length_map, List.length_cons, List.length_nil, List.length_take]; omega)))) | (refine Nat.le_trans (Nat.add_le_add_right (esc_len _) 2) ?_; (first | assumption | omega | (simp only [List.length_append, List.length_map, List.length_cons, List.length_nil, List.length_take]; omega))))) ?_; intro D5 vs5 h5 k5 hs5 F5 N5 l5))
local macro_rules | `(tactic| walk_at "compareOp NotEq ref ref") => `(tactic| (k_here; refine stop_any ?_))
local macro_rules | `(tactic| walk_at "call builtin:str.replace") => `(tactic| (k_here; refine replace_rule (by assumption) (by first | assumption | exact Nat.ne_of_gt (by assumption)) (by first | assumption | exact Nat.ne_of_gt (by assumption)) (by assumption) (rep_fit (by assumption) (by assumption)) (noneBooked_of (by assumption) (by assumption) (by rfl)) ?_; intro t6 k6))
local macro_rules | `(tactic| walk_at "getMethod bytes") => `(tactic| (k_here; refine gm_bsplit ?_))
local macro_rules | `(tactic| walk_at "call builtin:bytes.split") => `(tactic| (k_here; refine bsplit_rule (by assumption) (by assumption) (octs_ne (by (first | assumption | exact esc_ne (by assumption) | exact map_ne (by assumption) | exact esc_ne (map_ne (by assumption))))) (octs_size (by (first | (first | assumption | omega | (simp only [List.length_append, List.length_map, List.length_cons, List.length_nil, List.length_take]; omega)) | exact Nat.le_trans (glue_cut (by assumption) (by assumption)) (by decide) | (refine Nat.le_trans (esc_len _) ?_; (first | assumption | omega | (simp only [List.length_append, List.length_map, List.length_cons, List.length_nil, List.length_take]; omega)))))) ?_; intro D5 vs5 h5 k5 hs5 F5 N5 l5))
local macro_rules | `(tactic| walk_at "call builtin:str.join") => `(tactic| (k_here; (with_unfolding_all (refine joinsep_rule (News.isList (by assumption) (by k_mem)) (parts_strs (by assumption)) (sep_fit (by assumption) (by assumption)) ?_)); intro t6 k6))
theorem law03 : PySem.Challenge.rw_dn0142_03.Holds := hd (by
  w_strict (
    k_go0
    rename List Int => ns
    have hns : ns.length ≤ 63 := by omega
    k_steps
    refine stop_open ?_
    refine (comp_ints (R := fun k y => ∃ t, y = .str (tx [signOf k]) t) rfl (by assumption) (by assumption) (.inr ⟨_, .head _, rfl, _, rfl⟩) (by assumption) (by simp [sizeLine_eq]; omega) ?turn1 ?fin1)
    case turn1 =>
      intro k v I oI C oC D m₂ ys h tk E' hk hv hC hx F N off ne
      obtain ⟨u, rfl⟩ := hv
      k_steps
      exact CEnd.mk' (by assumption) (by assumption) (fun p hp => hp) ⟨_, rfl⟩
    case fin1 =>
      intro ys D h tk hy F N off
      k_steps
      refine stop_open ?_
      refine (compM_intsT (fun k => [signOf (k.fdiv 4)]) (by with_unfolding_all rfl) (by with_unfolding_all rfl) rfl (by assumption) (by assumption) (.inr ⟨_, .head _, rfl, _, rfl⟩) (by assumption) (by simp [sizeLine_eq]; omega) ?turn2 ?fin2)
      case turn2 =>
        intro k v I oI C oC D m₂ ys h tk E' hle hk hv hC hx F N off ne
        obtain ⟨u, rfl⟩ := hv
        k_steps
        exact ⟨_, _, _, rfl, (by assumption), (by assumption), rfl, (by dsimp only; omega), (by first | assumption | omega)⟩
      case fin2 =>
        intro ys D h tk hy hle F N off
        have hyl := hy.len
        dsimp only at hle hy
        have h4 : (List.take 4 ns).length ≤ 4 := by simp; omega
        have hyl4 : ys.length ≤ 4 := by omega
        have hD := drawn_of hy (by omega)
        have h01 : 0 < 1 := Nat.one_pos
        have h1t : 1 ≤ tk := by omega
        clear hy
        k_steps
        refine stop_open ?_
        refine join_new (News.isList (by assumption) (.head _)) hD h4 h01 h1t (by dsimp only; omega) ?_
        intro nw tv kv enw hn2 hv0 hv1 hv2 hv3
        k_steps
        refine stop_open ?_
        by_cases hne : List.take 4 ns = []
        · have e1 : List.take 2 ys = [] := by
            have : ys = [] := List.length_eq_zero_iff.mp (by rw [hyl, hne]; rfl)
            rw [this]; rfl
          refine truthy_no (News.isList (by assumption) (.head _)) e1 ?_
          simp only [Bool.false_eq_true, if_false]
          k_steps
          refine stop_open ?_
          refine iter_own InvS rfl (by assumption) (by assumption) (News.isList (by assumption) (.head _)) invS_start ?turn ?done
          case turn =>
            intro i v m₁ news₁ h tk I oI hi hJ off F N
            obtain ⟨e1, a, b, c, e2⟩ := hJ
            subst e1
            subst e2
            obtain ⟨S, u, e3, hS, hS2, hu0, huv⟩ := (soughts_of (v := tv) (by dsimp only at *; omega) (by dsimp only at *; omega) (by decide) (by decide) (by dsimp only at *; omega) (by dsimp only at *; omega)) v (List.mem_of_getElem? hi)
            subst e3
            (try dsimp only at F)
            k_steps
            refine stop_open ?_
            refine compM_strs (fun k y => ∃ t, y = .str (tx (esc k.cps.toList)) t) (by with_unfolding_all rfl) (by with_unfolding_all rfl) rfl (by assumption) (by assumption) (.inr ⟨_, .head _, rfl, _, rfl⟩) (by assumption) (by (rw [sizeLine_eq, List.length_map]; refine Nat.le_trans (cut_count _ _ 0).1 ?_; (first | assumption | omega | (simp only [List.length_append, List.length_map, List.length_cons, List.length_nil, List.length_take]; omega)))) ?turn2 ?fin2
            case turn2 =>
              intro k v I oI C oC D m₂ ys h tk E' hk hv hC hx F N off ne
              obtain ⟨p, hp, e4⟩ := List.mem_map.mp hk
              subst e4
              have hpl := cut_part hp
              obtain ⟨u, e5⟩ := hv
              subst e5
              k_steps
              exact CEnd.mk' (by assumption) (by assumption) (fun p hp => hp) ⟨_, rfl⟩
            case fin2 =>
              intro ys D h tk hy F N off2
              k_steps
              refine stop_open ?_
              refine ne_same (News.isList (by assumption) (.head _)) (News.isList (by assumption) (.tail _ (.head _))) (strs_same (cuts_same hS (by assumption)) (parts_strs hy)) ?hu ?_
              case hu => k_units
              k_steps
              any_goals (exact (no_bne (by assumption)).elim)
              refine stop_open ?_
              refine compM_strs (fun k y => ∃ t, y = .bytes (octs (esc k.cps.toList)) t) (by with_unfolding_all rfl) (by with_unfolding_all rfl) rfl (by assumption) (by assumption) (.inr ⟨_, .head _, rfl, _, rfl⟩) (by assumption) (by (rw [sizeLine_eq, List.length_map]; refine Nat.le_trans (cut_count _ _ 0).1 ?_; (first | assumption | omega | (simp only [List.length_append, List.length_map, List.length_cons, List.length_nil, List.length_take]; omega)))) ?turn3 ?fin3
              case turn3 =>
                intro k v I oI C oC D m₂ ys h tk E' hk hv hC hx F N off ne
                obtain ⟨p, hp, e4⟩ := List.mem_map.mp hk
                subst e4
                have hpl := cut_part hp
                rw [List.length_map] at hpl
                have hps : ∀ c ∈ p, c < 256 := fun c hc => mod_small _ c (cut_mem _ _ _ p hp c hc)
                obtain ⟨u, e5⟩ := hv
                subst e5
                k_steps
                exact CEnd.mk' (by assumption) (by assumption) (fun p hp => hp) ⟨_, rfl⟩
              case fin3 =>
                intro ys' D' h tk hy' F N off'
                k_steps
                refine stop_open ?_
                refine ne_same (News.isList (by assumption) (.head _)) (News.isList (by assumption) (.tail _ (.head _))) (bytes_same (bcuts_same (map_ne hS) (mod_small _) (mod_small _) (by assumption)) (parts_bytes hy')) ?hu ?_
                case hu => k_units
                k_steps
                refine turn_end03 (by assumption) (by assumption) ?_ off
                intro p hp
                repeat (first | exact hp | refine List.mem_cons_of_mem _ ?_)
          case done =>
            intro m₁ news₁ h tk hJ F N
            obtain ⟨e1, a, b, c, e2⟩ := hJ
            subst e1
            subst e2
            k_steps
        · have e1 : List.take 2 ys ≠ [] := by
            have h0 := List.length_pos_iff.mpr hne
            intro e
            have h1 := congrArg List.length e
            rw [List.length_take, List.length_nil] at h1
            omega
          refine truthy_yes (News.isList (by assumption) (.head _)) e1 (by simp; omega) ?_
          simp only [if_true]
          k_steps
          refine stop_open ?_
          refine join_sought (v := tv) (News.isList (by assumption) (.head _)) hD h01 h1t (by dsimp only at *; omega) hne (by dsimp only at *; omega) hv2 ?_
          intro nw' tu ku hn0 hn2' hu0 huv
          k_steps
          refine stop_open ?_
          refine iter_own InvS rfl (by assumption) (by assumption) (News.isList (by assumption) (.head _)) invS_start ?turn ?done
          case turn =>
            intro i v m₁ news₁ h tk I oI hi hJ off F N
            obtain ⟨e1, a, b, c, e2⟩ := hJ
            subst e1
            subst e2
            obtain ⟨S, u, e3, hS, hS2, hu0, huv⟩ := (soughts_of (v := tv) (by dsimp only at *; omega) (by dsimp only at *; omega) hn0 hn2' hu0 huv) v (List.mem_of_getElem? hi)
            subst e3
            (try dsimp only at F)
            k_steps
            refine stop_open ?_
            refine compM_strs (fun k y => ∃ t, y = .str (tx (esc k.cps.toList)) t) (by with_unfolding_all rfl) (by with_unfolding_all rfl) rfl (by assumption) (by assumption) (.inr ⟨_, .head _, rfl, _, rfl⟩) (by assumption) (by (rw [sizeLine_eq, List.length_map]; refine Nat.le_trans (cut_count _ _ 0).1 ?_; (first | assumption | omega | (simp only [List.length_append, List.length_map, List.length_cons, List.length_nil, List.length_take]; omega)))) ?turn2 ?fin2
            case turn2 =>
              intro k v I oI C oC D m₂ ys h tk E' hk hv hC hx F N off ne
              obtain ⟨p, hp, e4⟩ := List.mem_map.mp hk
              subst e4
              have hpl := cut_part hp
              obtain ⟨u, e5⟩ := hv
              subst e5
              k_steps
              exact CEnd.mk' (by assumption) (by assumption) (fun p hp => hp) ⟨_, rfl⟩
            case fin2 =>
              intro ys D h tk hy F N off2
              k_steps
              refine stop_open ?_
              refine ne_same (News.isList (by assumption) (.head _)) (News.isList (by assumption) (.tail _ (.head _))) (strs_same (cuts_same hS (by assumption)) (parts_strs hy)) ?hu ?_
              case hu => k_units
              k_steps
              any_goals (exact (no_bne (by assumption)).elim)
              refine stop_open ?_
              refine compM_strs (fun k y => ∃ t, y = .bytes (octs (esc k.cps.toList)) t) (by with_unfolding_all rfl) (by with_unfolding_all rfl) rfl (by assumption) (by assumption) (.inr ⟨_, .head _, rfl, _, rfl⟩) (by assumption) (by (rw [sizeLine_eq, List.length_map]; refine Nat.le_trans (cut_count _ _ 0).1 ?_; (first | assumption | omega | (simp only [List.length_append, List.length_map, List.length_cons, List.length_nil, List.length_take]; omega)))) ?turn3 ?fin3
              case turn3 =>
                intro k v I oI C oC D m₂ ys h tk E' hk hv hC hx F N off ne
                obtain ⟨p, hp, e4⟩ := List.mem_map.mp hk
                subst e4
                have hpl := cut_part hp
                rw [List.length_map] at hpl
                have hps : ∀ c ∈ p, c < 256 := fun c hc => mod_small _ c (cut_mem _ _ _ p hp c hc)
                obtain ⟨u, e5⟩ := hv
                subst e5
                k_steps
                exact CEnd.mk' (by assumption) (by assumption) (fun p hp => hp) ⟨_, rfl⟩
              case fin3 =>
                intro ys' D' h tk hy' F N off'
                k_steps
                refine stop_open ?_
                refine ne_same (News.isList (by assumption) (.head _)) (News.isList (by assumption) (.tail _ (.head _))) (bytes_same (bcuts_same (map_ne hS) (mod_small _) (mod_small _) (by assumption)) (parts_bytes hy')) ?hu ?_
                case hu => k_units
                k_steps
                refine turn_end03 (by assumption) (by assumption) ?_ off
                intro p hp
                repeat (first | exact hp | refine List.mem_cons_of_mem _ ?_)
          case done =>
            intro m₁ news₁ h tk hJ F N
            obtain ⟨e1, a, b, c, e2⟩ := hJ
            subst e1
            subst e2
            k_steps))
end Mine

end
theorem PySem.Challenge.cw_dn0142_03_holds : PySem.Challenge.rw_dn0142_03.Holds :=
  Mine.law03
