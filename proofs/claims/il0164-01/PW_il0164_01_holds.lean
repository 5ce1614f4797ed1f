import PyProof.Rows.All
import Wide.All
import OpenK.AllK
import Wide.FinOn
import Lean
import PySem.Challenge.RW_il0164_01
open PySem PySem.W PySem.Spec PySem.Calls PyProof.Rows
set_option Elab.async false
set_option linter.all false
-- R1
namespace Mine
set_option compiler.extract_closed false
set_option maxRecDepth 100000
set_option maxHeartbeats 8000000
open PySem.Builtin PySem.Builtin._codecs

theorem range_to_list {m : Type → Type} [Monad m] [LawfulMonad m] {β : Type} (n : Nat) (init : β) (f : Nat → β → m (ForInStep β)) : forIn [:n] init f = forIn (List.range' 0 n 1) init f := by
  rw [Std.Legacy.Range.forIn_eq_forIn_range']
  simp [Std.Legacy.Range.size]

theorem runDec_loop {id : String} {d : Decoder} {b : Array UInt8} {errors : Option Str} {final : Bool} (hd : ∀ p, p < b.size → d.find final b p = .text [(b.getD p 0).toNat] (p + 1)) (hsz : b.size ≤ sizeLine) :
    runDecoder id d errors final b 0 [] = pure (b.map (·.toNat), b.size) := by
  unfold runDecoder
  dsimp only
  rw [range_to_list]
  have key : ∀ (l : List Nat) (p : Nat) (out : Array Nat) (st : Faults) (f : Nat → Nat × Array Nat × Faults → Sem (ForInStep (Nat × Array Nat × Faults))),
      (∀ x p out st, p < b.size → out.size = p → f x (p, out, st) = pure (.yield (p + 1, out ++ #[(b.getD p 0).toNat], st))) →
      p + l.length = b.size → out = (b.toList.take p).toArray.map (·.toNat) → forIn l (p, out, st) f = pure (b.size, b.map (·.toNat), st) := by
    intro l
    induction l with
    | nil =>
      intro p out st f hf hp ho
      simp only [List.length_nil, Nat.add_zero] at hp
      subst hp ho
      rw [List.forIn_nil, List.take_of_length_le (by simp)]
    | cons x l ih =>
      intro p out st f hf hp ho
      simp only [List.length_cons] at hp
      have hlt : p < b.size := by omega
      have hos : out.size = p := by subst ho; simp; omega
      rw [List.forIn_cons, hf x p out st hlt hos]
      simp only [pure_bind]
      refine ih (p + 1) _ st f hf (by omega) ?_
      subst ho
      rw [List.take_add_one, List.getElem?_eq_getElem (by simpa using hlt)]
      simp [Array.getD, hlt]
  rw [key _ 0 #[] _ _ ?h (by simp) (by simp)]
  · rfl
  case h =>
    intro x p out st hp ho
    dsimp only
    rw [if_neg (by omega), if_neg (by omega), hd p hp]
theorem runDec_latin1 {id : String} {b : Array UInt8} (hsz : b.size ≤ sizeLine) : runDecoder id latin1Decoder none true b 0 [] = pure (b.map (·.toNat), b.size) :=
  runDec_loop (fun _ _ => rfl) hsz
theorem runDec_ascii {id : String} {b : Array UInt8} (ha : ∀ p, p < b.size → (b.getD p 0).toNat < 128) (hsz : b.size ≤ sizeLine) : runDecoder id asciiDecoder none true b 0 [] = pure (b.map (·.toNat), b.size) :=
  runDec_loop (fun p hp => by show (if _ then _ else _) = _; rw [if_pos (ha p hp)]; rfl) hsz

theorem road_eq_latin1 {id : String} {b : Array UInt8} : decodeRoad id b (Str.ofString "latin1") none [] = (runDecoder id latin1Decoder none true b 0 [] >>= fun r => mkStr ⟨r.1⟩) := by kernel_rfl
theorem road_eq_ascii {id : String} {b : Array UInt8} : decodeRoad id b (Str.ofString "ascii") none [] = (runDecoder id asciiDecoder none true b 0 [] >>= fun r => mkStr ⟨r.1⟩) := by kernel_rfl
theorem meets_dec_text {enc : String} {b : Array UInt8} {t t1 t2 : Tok} {d : Str} {x : Array Nat} (hr : ∀ id, decodeRoad id b (Str.ofString enc) none [] = mkStr ⟨x⟩) :
    Meets («_codecs.decode.text» ⟨[.bytes b t, .str (Str.ofString enc) t1, .none, .str d t2], []⟩) (fun _ R s => x.size ≤ sizeLine ∧ R (.ok (.ret (.str ⟨x⟩ s.toks))) { s with toks := s.toks + 1 }) := by
  refine .of_wp fun prog w A R s hS => ?_
  obtain ⟨hsz, h⟩ := hS
  show wpAny _ _ (Bytes.bytesLike _ (.bytes b t) >>= fun r => _) _ _ s
  refine wpAny_bind (wpAny_of_eq KBd.like_eq ?_)
  refine wpAny_bind (wpAny_of_eq KBd.held_eq ?_)
  show wpAny _ _ (decodeRoad _ b (Str.ofString enc) none [] >>= fun v => _) _ _ s
  rw [hr]
  exact wpAny_bind (wpAny_mkStr (wpAny_pure ⟨_, rfl, h⟩) hsz)
theorem args_decode_2 (a b : Value) : argsOk "bytes.decode" ⟨[a, b], []⟩ := by unfold argsOk; kernel_rfl

theorem decode_eq_latin1 {b : Array UInt8} {t t2 : Tok} (hb : b.isEmpty = false) : «bytes.decode» ⟨[.bytes b t, .str (Str.ofString "latin1") t2], []⟩ = (mkStr (Str.ofString "utf-8") >>= fun _ => mkStr (Str.ofString "latin1") >>= fun e => mkStr (Str.ofString "bytes.decode") >>= fun d =>
    call (.builtin "_codecs.decode.text") [.bytes b t, e, .none, d] >>= fun v => ret v) := by
  have h : «bytes.decode» ⟨[.bytes b t, .str (Str.ofString "latin1") t2], []⟩ = (if b.isEmpty = true then (do rule "bytes.decode.empty"; retStr Str.empty) else (mkStr (Str.ofString "utf-8") >>= fun _ => mkStr (Str.ofString "latin1") >>= fun e => mkStr (Str.ofString "bytes.decode") >>= fun d =>
    call (.builtin "_codecs.decode.text") [.bytes b t, e, .none, d] >>= fun v => ret v)) := by kernel_rfl
  rw [h, hb]; rfl
theorem decode_eq_ascii {b : Array UInt8} {t t2 : Tok} (hb : b.isEmpty = false) : «bytes.decode» ⟨[.bytes b t, .str (Str.ofString "ascii") t2], []⟩ = (mkStr (Str.ofString "utf-8") >>= fun _ => mkStr (Str.ofString "ascii") >>= fun e => mkStr (Str.ofString "bytes.decode") >>= fun d =>
    call (.builtin "_codecs.decode.text") [.bytes b t, e, .none, d] >>= fun v => ret v) := by
  have h : «bytes.decode» ⟨[.bytes b t, .str (Str.ofString "ascii") t2], []⟩ = (if b.isEmpty = true then (do rule "bytes.decode.empty"; retStr Str.empty) else (mkStr (Str.ofString "utf-8") >>= fun _ => mkStr (Str.ofString "ascii") >>= fun e => mkStr (Str.ofString "bytes.decode") >>= fun d =>
    call (.builtin "_codecs.decode.text") [.bytes b t, e, .none, d] >>= fun v => ret v)) := by kernel_rfl
  rw [h, hb]; rfl
theorem meets_decode2 {enc : String} {b : Array UInt8} {t t2 : Tok} {x : Array Nat} (he : «bytes.decode» ⟨[.bytes b t, .str (Str.ofString enc) t2], []⟩ = (mkStr (Str.ofString "utf-8") >>= fun _ => mkStr (Str.ofString enc) >>= fun e => mkStr (Str.ofString "bytes.decode") >>= fun d =>
    call (.builtin "_codecs.decode.text") [.bytes b t, e, .none, d] >>= fun v => ret v)) (hl : (Str.ofString enc).length ≤ sizeLine) (hr : ∀ id, decodeRoad id b (Str.ofString enc) none [] = mkStr ⟨x⟩) :
    Meets («bytes.decode» ⟨[.bytes b t, .str (Str.ofString enc) t2], []⟩) (fun _ R s => x.size ≤ sizeLine ∧ ∀ t' k, R (.ok (.ret (.str ⟨x⟩ t'))) { s with toks := k }) := by
  refine .of_wp fun prog w A R s hS => ?_
  obtain ⟨hsz, h⟩ := hS
  rw [he]
  refine wpAny_bind (wpAny_mkStr ?_ (by decide))
  refine wpAny_bind (wpAny_mkStr ?_ hl)
  refine wpAny_bind (wpAny_mkStr ?_ (by decide))
  exact wpAny_bind (call_function_meets KBd.kind_text KBd.plain_text KBd.entry_text (KBd.args_text _ _ _ _) (meets_dec_text hr) ⟨hsz, wpAny_pure ⟨_, rfl, h _ _⟩⟩)
section
variable {prog : Program} {w : World} {A : Around} {E : Value → Shared → Prop} {s : Shared} {b : Array UInt8} {t t2 : Tok}
theorem size_pos_empty (hb : 0 < b.size) : b.isEmpty = false := by
  simp only [Array.isEmpty, decide_eq_false_iff_not]; omega
theorem decode_latin1 {Q : Value → Shared → Prop} (hb : 0 < b.size) (hs : b.size ≤ 1000000) (h : ∀ t' k, Q (.str ⟨b.map (·.toNat)⟩ t') { s with toks := k }) :
    wpAny (model prog w) A (call (.builtin "bytes.decode") [.bytes b t, .str (Str.ofString "latin1") t2]) Q E s := by
  have hs' : b.size ≤ sizeLine := by rw [sizeLine_eq]; omega
  exact call_meets FB.slot_bytes_decode (typeIs_bytes _ _ _) FB.entry_bytes_decode (args_decode_2 _ _) (meets_decode2 (x := b.map (·.toNat)) (decode_eq_latin1 (size_pos_empty hb)) (by decide) (fun id => by rw [road_eq_latin1, runDec_latin1 hs']; rfl)) ⟨by simpa using hs', h⟩
theorem decode_ascii {Q : Value → Shared → Prop} (hb : 0 < b.size) (hs : b.size ≤ 1000000) (ha : ∀ p, p < b.size → (b.getD p 0).toNat < 128) (h : ∀ t' k, Q (.str ⟨b.map (·.toNat)⟩ t') { s with toks := k }) :
    wpAny (model prog w) A (call (.builtin "bytes.decode") [.bytes b t, .str (Str.ofString "ascii") t2]) Q E s := by
  have hs' : b.size ≤ sizeLine := by rw [sizeLine_eq]; omega
  exact call_meets FB.slot_bytes_decode (typeIs_bytes _ _ _) FB.entry_bytes_decode (args_decode_2 _ _) (meets_decode2 (x := b.map (·.toNat)) (decode_eq_ascii (size_pos_empty hb)) (by decide) (fun id => by rw [road_eq_ascii, runDec_ascii ha hs']; rfl)) ⟨by simpa using hs', h⟩
theorem truthy_bytes_pos {Q : Bool → Shared → Prop} (hb : 0 < b.size) (hs : b.size ≤ 1000000) (h : Q true { s with toks := s.toks + 1 + 1 }) : wpAny (model prog w) A (truthy (.bytes b t)) Q E s :=
  truthy_bytes (by omega) (by have : ((b.size : Int) != 0) = true := bne_iff_ne.mpr (by omega)
                              rw [this]; exact h)
end
end Mine
-- R2
namespace Mine
set_option compiler.extract_closed false
set_option maxRecDepth 100000
set_option maxHeartbeats 8000000
open PySem.Builtin PySem.Builtin.Str

theorem forIn_inv {α β : Type} {M : Model} {A : Around} {E : Value → Shared → Prop} {Q : β → Shared → Prop} {f : α → β → Sem (ForInStep β)} (l : List α) (I : List α → β → Shared → Prop)
    (step : ∀ pre x post b s, l = pre ++ x :: post → I pre b s → wpAny M A (f x b) (fun r s' => ∃ b', r = .yield b' ∧ I (pre ++ [x]) b' s') E s)
    (fin : ∀ b s, I l b s → Q b s) (init : β) (s : Shared) (h0 : I [] init s) : wpAny M A (forIn l init f) Q E s := by
  have go : ∀ (post pre : List α) (b : β) (s : Shared), l = pre ++ post → I pre b s → wpAny M A (forIn post b f) Q E s := by
    intro post
    induction post with
    | nil =>
      intro pre b s hl hI
      rw [List.forIn_nil]
      rw [List.append_nil] at hl
      subst hl
      exact wpAny_pure (fin b s hI)
    | cons x post ih =>
      intro pre b s hl hI
      rw [List.forIn_cons]
      refine wpAny_bind (wpAny_mono (step pre x post b s hl hI) (fun r s' hr => ?_) fun _ _ e => e)
      obtain ⟨b', rfl, hI'⟩ := hr
      exact ih (pre ++ [x]) b' s' (by rw [hl]; simp) hI'
  exact go l [] init s rfl h0

def trCps (g : Nat → Str) (l : List Nat) : List Nat := l.flatMap fun c => (g c).cps.toList
theorem foldl_cps (l : List Str) : ∀ acc : Array Nat, (l.foldl (fun acc p => acc ++ p.cps) acc).toList = acc.toList ++ l.flatMap fun p => p.cps.toList := by
  induction l with
  | nil => intro acc; simp
  | cons p l ih => intro acc; rw [List.foldl_cons, ih]; simp
theorem tr_len_pre (g : Nat → Str) (pre post : List Nat) : (trCps g pre).length ≤ (trCps g (pre ++ post)).length := by
  unfold trCps; rw [List.flatMap_append, List.length_append]; omega

inductive TrI (s : Shared) (g : Nat → Str) (pre : List Nat) (b : List Str × Nat × Bool × List (Nat × Option Nat) × Bool) (s' : Shared) : Prop
  | mk (k : Nat) (e : s' = { s with toks := k }) (h1 : (b.1.reverse.flatMap fun p => p.cps.toList) = trCps g pre) (h2 : b.2.1 = (trCps g pre).length) (h3 : b.2.2.2.2 = false) (h4 : ∀ q ∈ b.2.2.2.1, ∃ d, q.2 = some d ∧ (g q.1).cps = #[d]) : TrI s g pre b s'
theorem prod5 {A B C D E : Type} {P : A × B × C × D × E → Prop} (h : ∀ a b c d e, P (a, b, c, d, e)) : ∀ x, P x := fun ⟨a, b, c, d, e⟩ => h a b c d e
theorem wp_abs {α : Type} {M : Model} {A : Around} {t : Sem α} {E : Value → Shared → Prop} {s : Shared} {Q : α → Shared → Prop} (h : ∀ Q' : α → Shared → Prop, (∀ v s, Q v s → Q' v s) → wpAny M A t Q' E s) : wpAny M A t Q E s := h Q fun _ _ x => x
theorem wp_translate {M : Model} {A : Around} {E : Value → Shared → Prop} {s : Shared} {x : Str} {t : Tok} {table : Value} {g : Nat → Str} {P : PySem.Fin → Shared → Prop}
    (hx : 0 < x.cps.size) (hz : (trCps g x.cps.toList).length ≤ sizeLine)
    (ht : ∀ c ∈ x.cps.toList, ∀ (k : Nat) (Q : Mapped → Shared → Prop), (∀ k', Q (.text (g c)) { s with toks := k' }) → wpAny M A (tableLookup table c) Q E { s with toks := k })
    (h : ∀ t' k, P (.done (.ret (.str ⟨(trCps g x.cps.toList).toArray⟩ t'))) { s with toks := k }) :
    wpAny M A («str.translate» ⟨[.str x t, table], []⟩) P E s := by
  unfold «str.translate»
  have e : strOneArg "translate" { pos := [Value.str x t, table] } = pure (Value.str x t, x, table) := rfl
  rw [e, pure_bind]
  dsimp only
  have hl : (x.length == 0) = false := by
    show (x.cps.size == 0) = false
    exact beq_eq_false_iff_ne.mpr (by omega)
  rw [hl]
  simp only [Bool.false_eq_true, if_false]
  rw [← Array.forIn_toList]
  refine wpAny_bind (forIn_inv x.cps.toList (TrI s g) ?step ?fin _ _ ⟨s.toks, rfl, rfl, rfl, rfl, by simp⟩)
  case fin =>
    refine prod5 ?_
    intro pieces total fast known drop s' ⟨k, e, h1, h2, h3, h4⟩
    rw [e]
    clear e
    dsimp only at h1 h2 h3 h4 ⊢
    have htl : tooLong total = false := by
      unfold tooLong; rw [h2]; exact decide_eq_false (by omega)
    rw [htl]
    simp only [Bool.false_eq_true, if_false]
    have e2 : (List.foldl (fun acc p => acc ++ p.cps) #[] pieces.reverse) = (trCps g x.cps.toList).toArray := by
      apply Array.toList_inj.mp
      rw [foldl_cps, h1]
      simp
    rw [e2]
    exact wpAny_bind (wpAny_mkStr (wpAny_pure (h _ _)) (by show (trCps g x.cps.toList).toArray.size ≤ _; simpa using hz))
  case step =>
    intro pre c post
    refine prod5 ?_
    intro pieces total fast known drop s' hsplit hI
    refine wp_abs ?_
    intro qA hqA
    obtain ⟨k, rfl, h1, h2, h3, h4⟩ := hI
    dsimp only at h1 h2 h3 h4 ⊢
    subst h3
    have hc : c ∈ x.cps.toList := by rw [hsplit]; simp
    have hle : (trCps g pre).length ≤ sizeLine := by
      have := tr_len_pre g pre (c :: post)
      rw [← hsplit] at this
      omega
    have htl : tooLong total = false := by
      unfold tooLong; rw [h2]; exact decide_eq_false (by omega)
    rw [htl]
    have fin1 : ∀ (k' : Nat) (fast' : Bool) (known' : List (Nat × Option Nat)), (∀ q ∈ known', ∃ d, q.2 = some d ∧ (g q.1).cps = #[d]) →
        qA (.yield (g c :: pieces, total + (g c).length, fast', known', false)) { s with toks := k' } := by
      intro k' fast' known' hk
      refine hqA _ _ ⟨_, rfl, k', rfl, ?_, ?_, rfl, hk⟩
      · simp only [List.reverse_cons, List.flatMap_append, h1, trCps, List.flatMap_cons, List.flatMap_nil]
      · simp only [h2, trCps, List.flatMap_append, List.flatMap_cons, List.flatMap_nil, List.length_append, Array.length_toList, List.length_nil, Str.length]; rfl
    have slow : ∀ (k' : Nat) (fast' : Bool) (known' : List (Nat × Option Nat)), (∀ q ∈ known', ∃ d, q.2 = some d ∧ (g q.1).cps = #[d]) →
        wpAny M A (tableLookup table c >>= fun r => match r with
          | Mapped.keep => pure (ForInStep.yield (({ cps := #[c] } : Str) :: pieces, total + 1, fast', known', false))
          | Mapped.drop => pure (ForInStep.yield (pieces, total, fast', known', true))
          | Mapped.char d => pure (ForInStep.yield (({ cps := #[d] } : Str) :: pieces, total + 1, fast', known', false))
          | Mapped.text t => pure (ForInStep.yield (t :: pieces, total + t.length, fast', known', false)))
          qA E { s with toks := k' } := by
      intro k' fast' known' hk
      refine wpAny_bind (ht c hc k' _ fun k₂ => ?_)
      exact wpAny_pure (fin1 k₂ fast' known' hk)
    cases fast with
    | false => exact slow k false known h4
    | true =>
      simp only [Bool.false_eq_true, if_false, if_true]
      cases hlk : List.lookup c known with
      | some a =>
        simp only [pure_bind]
        have hm : (c, a) ∈ known := by
          have : ∀ (l : List (Nat × Option Nat)), List.lookup c l = some a → (c, a) ∈ l := by
            intro l
            induction l with
            | nil => intro e; cases e
            | cons q l ih =>
              obtain ⟨q1, q2⟩ := q
              intro e
              rw [List.lookup_cons] at e
              by_cases hq : c == q1
              · rw [hq] at e
                have : c = q1 := by simpa using hq
                cases e; subst this; exact .head _
              · simp only [hq] at e
                exact .tail _ (ih e)
          exact this known hlk
        obtain ⟨d, hd1, hd2⟩ := h4 _ hm
        dsimp only at hd1 hd2
        subst hd1
        dsimp only
        refine wpAny_pure ?_
        have hg : g c = ⟨#[d]⟩ := by
          cases hgc : g c with
          | mk cps => rw [hgc] at hd2; dsimp only at hd2; rw [hd2]
        have hz2 := fin1 k true known h4
        rw [hg] at hz2
        exact hz2
      | none =>
        dsimp only
        refine wpAny_bind (ht c hc k _ fun k₂ => ?_)
        dsimp only
        by_cases hone : ((g c).length == 1 && (g c).cps.all fun x => decide (x < 128)) = true
        · rw [if_pos hone]
          have hsz : (g c).cps.size = 1 := by
            have := (Bool.and_eq_true_iff.mp hone).1
            simpa [Str.length] using this
          have hd : ∃ d, (g c).cps = #[d] := by
            obtain ⟨⟨l⟩⟩ : ∃ a : Array Nat, a = (g c).cps := ⟨_, rfl⟩
            match hl2 : (g c).cps, hsz with
            | ⟨[d]⟩, _ => exact ⟨d, rfl⟩
          obtain ⟨d, hd⟩ := hd
          have h0 : (g c).cps[0]? = some d := by rw [hd]; rfl
          rw [h0]
          simp only [pure_bind]
          refine wpAny_pure ?_
          have hg : g c = ⟨#[d]⟩ := by
            cases hgc : g c with
            | mk cps => rw [hgc] at hd; dsimp only at hd; rw [hd]
          have hz2 := fin1 k₂ true ((c, some d) :: known) (by
            intro q hq
            rcases List.mem_cons.mp hq with rfl | hq
            · exact ⟨d, rfl, hd⟩
            · exact h4 q hq)
          rw [hg] at hz2
          exact hz2
        · rw [if_neg hone]
          simp only [pure_bind]
          refine wpAny_bind (wpAny_rule ?_)
          exact slow k₂ false known h4
end Mine
-- R3
namespace Mine
set_option compiler.extract_closed false
set_option maxRecDepth 100000
set_option maxHeartbeats 8000000
open PySem.Builtin PySem.Builtin.Str
section
variable {prog : Program} {w : World} {A : Around} {E : Value → Shared → Prop} {s : Shared}
theorem tableLookup_list {l : Addr} {vs : List Value} {c : Nat} {x : Str} {t : Tok} {Q : Mapped → Shared → Prop} (hl : s.heap.IsList l vs.toArray) (hc : c < 4294967296) (hx : vs[c]? = some (.str x t))
    (h : ∀ k, Q (.text x) { s with toks := k }) : wpAny (model prog w) A (tableLookup (.ref l) c) Q E s := by
  unfold tableLookup
  refine wpAny_bind (wpAny_attempt (wpAny_bind (wpAny_mkInt ?_)))
  refine wpAny_getItem_list (x := .str x t) hl (by omega) (by omega) (by simpa using hx) ?_
  dsimp only
  refine wpAny_bind (wpAny_of_eq (a := none) rfl ?_)
  dsimp only
  refine wpAny_bind (wpAny_of_eq (a := some x) rfl ?_)
  exact wpAny_pure (h _)
theorem translate_list {x : Str} {t : Tok} {l : Addr} {vs : List Value} {g : Nat → Str} {Q : Value → Shared → Prop} (hl : s.heap.IsList l vs.toArray) (hx : 0 < x.cps.size)
    (hg : ∀ c ∈ x.cps.toList, c < 4294967296 ∧ ∃ t, vs[c]? = some (.str (g c) t)) (hz : (trCps g x.cps.toList).length ≤ 1000000)
    (h : ∀ (X : Str) t' k, X.cps.toList = trCps g x.cps.toList → X.length ≤ 1000000 → Q (.str X t') { s with toks := k }) :
    wpAny (model prog w) A (call (.builtin "str.translate") [.str x t, .ref l]) Q E s := by
  refine wpAny_call_entry F.slot_str_translate (typeIs_str _ _ _) F.entry_str_translate ?_ (F.args_str_translate_2 _ _)
  refine wp_translate (g := g) hx (by rw [sizeLine_eq]; omega) (fun c hc k Q' hq => ?_) fun t' k => ⟨_, rfl, h _ _ _ (by simp) (by show (trCps g x.cps.toList).toArray.size ≤ _; simpa using hz)⟩
  obtain ⟨h1, t1, h2⟩ := hg c hc
  exact tableLookup_list (s := { s with toks := k }) hl h1 h2 fun k' => hq k'
theorem method_translate {M : Model} {x : Str} {t : Tok} {pl : Sem Bool} {Q : Value × List Value → Shared → Prop} (h : Q (.builtin "str.translate", [.str x t]) s) : wpAny M A (getMethod (.str x t) "translate" pl) Q E s := by
  have noRef : ∀ a, Value.str x t = .ref a → ∃ o, s.heap.get? a = some o ∧ o.dict = none := fun _ e => nomatch e
  with_reducible exact getMethod_builtin (typeIs_str _ _ _) F.plainAttrs_str F.slot_str_translate F.type_str_translate noRef h
end
end Mine
-- R4
namespace Mine
set_option compiler.extract_closed false
set_option maxRecDepth 100000
set_option maxHeartbeats 8000000
structure BSt where
  lb : Int
  lc : Int
  t1 : Tok
  t2 : Tok
  out : Array Value
  ep : Nat
  zs : List Int
def BGood (f : List Int → Int × Int × List Int) (pre : List Int) (c : BSt) : Prop := IntsAre c.out.toList c.zs ∧ (c.lb, c.lc, c.zs) = f pre ∧ c.zs.length ≤ 2 * pre.length
def BLed (D : Addr) (news : List (Addr × Obj)) (c : BSt) : List (Addr × Obj) := (D, W.listOf c.out c.ep) :: news
def BPs (c : BSt) : List (Str × Value) := [(Str.ofString "leftbits", .int c.lb c.t1), (Str.ofString "leftchar", .int c.lc c.t2)]
section
variable {prog : Program} {w : World} {A : Around} {E : Value → Shared → Prop} {s : Shared} {env : Env} {h₀ : Heap} {x : Str} {body : List Stmt} {Q : Flow → Shared → Prop} {f : List Int → Int × Int × List Int}
theorem b64_loop {D : Addr} {news : List (Addr × Obj)} {m₀ : Str → Option Value} {b : Array UInt8} {tb u1 u2 : Tok} (hh : A.handled = none) (F : Fr h₀ env.locals s.heap m₀) (N : News h₀ env.locals s.heap ((D, W.listOf #[] 0) :: news)) (hlt : ∀ p ∈ news, p.1 < D)
    (hk1 : m₀ (Str.ofString "leftbits") = some (.int 0 u1)) (hk2 : m₀ (Str.ofString "leftchar") = some (.int 0 u2)) (hf0 : f [] = (0, 0, []))
    (turn : ∀ (lb lc : Int) (t1 t2 : Tok) (out : Array Value) (ep : Nat) (zs : List Int) (pre : List Int) (n : Int) t h tk own, pre.length < b.size → 0 ≤ n → n < 256 → OwnOff own (D :: news.map (·.1)) → IntsAre out.toList zs → (lb, lc, zs) = f pre → zs.length ≤ 2 * pre.length → (∀ p ∈ news ++ own, p.1 ≠ D) →
      Fr h₀ env.locals h (fun y => if y = x then some (.int n t) else if y = Str.ofString "leftbits" then some (.int lb t1) else if y = Str.ofString "leftchar" then some (.int lc t2) else m₀ y) → News h₀ env.locals h ((D, W.listOf out ep) :: (news ++ own)) →
      wpAny (model prog w) A (execs body env) (InvPostN h₀ env.locals (KstS (BLed D news) BPs (fun _ => True) x [] m₀ (BGood f) (pre ++ [n])) own (D :: news.map (·.1)) { s with heap := h, toks := tk } Q) E { s with heap := h, toks := tk })
    (done : ∀ (lb lc : Int) (t1 t2 : Tok) (out : Array Value) (ep : Nat) (zs : List Int) (u : Option Value) h tk, (∀ p ∈ news, p.1 ≠ D) → IntsAre out.toList zs → (lb, lc, zs) = f (KBw.bInts b) → zs.length ≤ 2 * b.size → Fr h₀ env.locals h (fun y => if y = x then u else if y = Str.ofString "leftbits" then some (.int lb t1) else if y = Str.ofString "leftchar" then some (.int lc t2) else m₀ y) → News h₀ env.locals h ((D, W.listOf out ep) :: news) → Q .next { s with heap := h, toks := tk }) :
    wpAny (model prog w) A (pyIter (.bytes b tb)) (fun it s₂ => LoopAtV prog w A h₀ env x body Q E it s₂) E s := by
  refine KStb.kst_bytes (σ := BSt) (ks := KBw.bInts b) (len := b.size) (BLed D news) BPs (fun _ => True) [] (BGood f) ⟨0, 0, u1, u2, #[], 0, []⟩ rfl (KBw.ints_length b) hh F N trivial ?_ ⟨.nil, hf0.symm, by simp⟩ ?_ ?_
  · intro p hp
    simp only [BPs, List.mem_cons, List.not_mem_nil, or_false] at hp
    rcases hp with rfl | rfl
    · exact hk1
    · exact hk2
  · intro c pre post n t u h tk own he hlen h0 h1 hoff _ hg F' N'
    exact turn c.lb c.lc c.t1 c.t2 c.out c.ep c.zs pre n t h tk own hlen h0 h1 hoff hg.1 hg.2.1 hg.2.2 (fun p hp => (List.mem_append.mp hp).elim (fun q => Nat.ne_of_lt (hlt p q)) fun q => hoff p q D (.head _)) F' N'
  · intro c u h tk _ _ hg F' N'
    refine done c.lb c.lc c.t1 c.t2 c.out c.ep c.zs (u x) h tk (fun p q => Nat.ne_of_lt (hlt p q)) hg.1 hg.2.1 (by have := hg.2.2; rw [KBw.ints_length] at this; exact this) ?_ N'
    have e : (fun y => if y = x then u x else if y = Str.ofString "leftbits" then some (Value.int c.lb c.t1) else if y = Str.ofString "leftchar" then some (Value.int c.lc c.t2) else m₀ y) = (fun y => if y = x then u y else kstB (fun z => if ([] : List Str).contains z then u z else m₀ z) (BPs c) y) := by
      funext y
      by_cases hy : y = x
      · rw [if_pos hy, if_pos hy, hy]
      · rw [if_neg hy, if_neg hy]; rfl
    rw [e]
    exact F'
theorem b64_end {D : Addr} {news own : List (Addr × Obj)} {m₀ m' : Str → Option Value} {pre : List Int} {n : Int} {L : Addr} {s₁ : Shared} {h' : Heap} {tk : Nat} (lb lc : Int) (t1 t2 : Tok) (out : Array Value) (ep : Nat) (zs : List Int)
    (F : Fr h₀ L h' m') (N : News h₀ L h' ((D, W.listOf out ep) :: (news ++ own))) (hk1 : m' (Str.ofString "leftbits") = some (.int lb t1)) (hk2 : m' (Str.ofString "leftchar") = some (.int lc t2))
    (hr : ∀ z, z ≠ x → z ≠ Str.ofString "leftbits" → z ≠ Str.ofString "leftchar" → m' z = m₀ z) (hi : IntsAre out.toList zs) (he : (lb, lc, zs) = f (pre ++ [n])) (hl : zs.length ≤ 2 * (pre.length + 1)) :
    InvEndN h₀ L (KstS (BLed D news) BPs (fun _ => True) x [] m₀ (BGood f) (pre ++ [n])) own (D :: news.map (·.1)) s₁ { s₁ with heap := h', toks := tk } := by
  refine kst_end (Led := BLed D news) (ps := BPs) (⟨lb, lc, t1, t2, out, ep, zs⟩ : BSt) F N ?_ ?_ rfl trivial ?_ ?_ ⟨hi, he, by simpa using hl⟩
  · intro p hp
    rcases List.mem_cons.mp hp with rfl | hp
    · exact .head _
    · exact .tail _ (List.mem_append_left _ hp)
  · intro p hp
    exact .tail _ (List.mem_append_right _ hp)
  · intro p hp
    simp only [BPs, List.mem_cons, List.not_mem_nil, or_false] at hp
    rcases hp with rfl | rfl
    · exact hk1
    · exact hk2
  · intro z hz hp _
    exact hr z hz (hp _ (.head _)) (hp _ (.tail _ (.head _)))
end
theorem ints_push {a : Array Value} {zs : List Int} {v : Int} {t : Tok} (h : IntsAre a.toList zs) : IntsAre (a.push (.int v t)).toList (zs ++ [v]) := by
  rw [Array.toList_push]
  exact IntsAre.append h (.cons _ _ .nil)

def b64tab : List UInt8 := [65, 66, 67, 68, 69, 70, 71, 72, 73, 74, 75, 76, 77, 78, 79, 80, 81, 82, 83, 84, 85, 86, 87, 88, 89, 90, 97, 98, 99, 100, 101, 102, 103, 104, 105, 106, 107, 108, 109, 110, 111, 112, 113, 114, 115, 116, 117, 118, 119, 120, 121, 122, 48, 49, 50, 51, 52, 53, 54, 55, 56, 57, 43, 47]
def b64at (v : Int) : Int := ((b64tab.getD v.toNat 0).toNat : Nat)
section
variable {prog : Program} {w : World} {A : Around} {E : Value → Shared → Prop} {s : Shared}
theorem item_b64 {value slice : PySem.Expr} {v : Int} {t ui : Tok} {Q : Value → Shared → Prop} (h0 : 0 ≤ v) (h1 : v < 64) (h : Q (.int (b64at v) s.toks) { s with toks := s.toks + 1 })
    (hs : subscripted slice false (.bytes b64tab.toArray t) (.int v ui) = operate [.bytes b64tab.toArray t, .int v ui] (getItem (.bytes b64tab.toArray t) (.int v ui)) := by with_unfolding_all rfl)
    (ht : ∀ r, letTemporaryGo value (.bytes b64tab.toArray t) r = pure () := by intro _; with_unfolding_all rfl) :
    wpAny (model prog w) A (subscriptTail value slice (.bytes b64tab.toArray t) (.int v ui)) Q E s :=
  KBy.item_N (by decide) h0 (by have : b64tab.length = 64 := rfl; omega) h hs ht
theorem and63 {a : Int} {t u : Tok} {Q : Value → Shared → Prop} (h : ∀ v, v = a % 64 → 0 ≤ v → v < 64 → Q (.int v s.toks) { s with toks := s.toks + 1 }) : wpAny (model prog w) A (binaryOp .BitAnd (.int a t) (.int 63 u)) Q E s :=
  PyProof.Rows.and_int (by rw [bitAnd_m6]; exact h _ rfl (by omega) (by omega))
end

def b64lc (lc n : Int) : Int := Builtin.bitAnd (Builtin.bitOr (lc * 2 ^ Int.toNat 8) n) 65535
def b64d (lc : Int) (k : Nat) : Int := b64at (lc.fdiv (2 ^ k) % 64)
def b64turn (c : Int × Int × List Int) (n : Int) : Int × Int × List Int :=
  if c.1 = 4 then (0, b64lc c.2.1 n, c.2.2 ++ [b64d (b64lc c.2.1 n) 6] ++ [b64d (b64lc c.2.1 n) 0])
  else if c.1 = 2 then (4, b64lc c.2.1 n, c.2.2 ++ [b64d (b64lc c.2.1 n) 4])
  else (2, b64lc c.2.1 n, c.2.2 ++ [b64d (b64lc c.2.1 n) 2])
def b64fold (pre : List Int) : Int × Int × List Int := pre.foldl b64turn (0, 0, [])
theorem b64fold_snoc (pre : List Int) (n : Int) : b64fold (pre ++ [n]) = b64turn (b64fold pre) n := by simp [b64fold]
theorem b64lc_range (lc n : Int) : 0 ≤ b64lc lc n ∧ b64lc lc n < 65536 := by
  have := bitAnd_range (Builtin.bitOr (lc * 2 ^ Int.toNat 8) n) (y := 65535) (by decide)
  unfold b64lc; omega
theorem b64_lb (pre : List Int) : ((b64fold pre).1 = 0 ∨ (b64fold pre).1 = 2 ∨ (b64fold pre).1 = 4) ∧ 0 ≤ (b64fold pre).2.1 ∧ (b64fold pre).2.1 < 65536 := by
  rcases List.eq_nil_or_concat pre with rfl | ⟨l, n, rfl⟩
  · exact ⟨.inl rfl, by decide, by decide⟩
  · rw [List.concat_eq_append, b64fold_snoc]
    have := b64lc_range (b64fold l).2.1 n
    unfold b64turn
    split
    · exact ⟨.inl rfl, this⟩
    · split
      · exact ⟨.inr (.inr rfl), this⟩
      · exact ⟨.inr (.inl rfl), this⟩
theorem b64_e0 {pre : List Int} {n lc v : Int} {zs : List Int} (h : (0, lc, zs) = b64fold pre) (hv : v = (Builtin.bitAnd (Builtin.bitOr (lc * 2 ^ Int.toNat 8) n) 65535).fdiv (2 ^ (0 + 8 - 6 : Int).toNat) % 64) :
    (0 + 8 - 6, Builtin.bitAnd (Builtin.bitOr (lc * 2 ^ Int.toNat 8) n) 65535, zs ++ [b64at v]) = b64fold (pre ++ [n]) := by
  subst hv
  rw [b64fold_snoc, ← h]; rfl
theorem b64_e2 {pre : List Int} {n lc v : Int} {zs : List Int} (h : (2, lc, zs) = b64fold pre) (hv : v = (Builtin.bitAnd (Builtin.bitOr (lc * 2 ^ Int.toNat 8) n) 65535).fdiv (2 ^ (2 + 8 - 6 : Int).toNat) % 64) :
    (2 + 8 - 6, Builtin.bitAnd (Builtin.bitOr (lc * 2 ^ Int.toNat 8) n) 65535, zs ++ [b64at v]) = b64fold (pre ++ [n]) := by
  subst hv
  rw [b64fold_snoc, ← h]; rfl
theorem b64_e4 {pre : List Int} {n lc v v' : Int} {zs : List Int} (h : (4, lc, zs) = b64fold pre) (hv : v = (Builtin.bitAnd (Builtin.bitOr (lc * 2 ^ Int.toNat 8) n) 65535).fdiv (2 ^ (4 + 8 - 6 : Int).toNat) % 64)
    (hv' : v' = (Builtin.bitAnd (Builtin.bitOr (lc * 2 ^ Int.toNat 8) n) 65535).fdiv (2 ^ (4 + 8 - 6 - 6 : Int).toNat) % 64) :
    (4 + 8 - 6 - 6, Builtin.bitAnd (Builtin.bitOr (lc * 2 ^ Int.toNat 8) n) 65535, zs ++ [b64at v] ++ [b64at v']) = b64fold (pre ++ [n]) := by
  subst hv hv'
  rw [b64fold_snoc, ← h]; rfl
section
variable {prog : Program} {w : World} {A : Around} {E : Value → Shared → Prop} {s : Shared}
theorem and3 {a : Int} {t u : Tok} {Q : Value → Shared → Prop} (h : ∀ v, v = a % 4 → 0 ≤ v → v < 4 → Q (.int v s.toks) { s with toks := s.toks + 1 }) : wpAny (model prog w) A (binaryOp .BitAnd (.int a t) (.int 3 u)) Q E s :=
  PyProof.Rows.and_int (by rw [bitAnd_m2]; exact h _ rfl (by omega) (by omega))
theorem and15 {a : Int} {t u : Tok} {Q : Value → Shared → Prop} (h : ∀ v, v = a % 16 → 0 ≤ v → v < 16 → Q (.int v s.toks) { s with toks := s.toks + 1 }) : wpAny (model prog w) A (binaryOp .BitAnd (.int a t) (.int 15 u)) Q E s :=
  PyProof.Rows.and_int (by rw [bitAnd_m4]; exact h _ rfl (by omega) (by omega))
theorem shl4 {a : Int} {t u : Tok} {Q : Value → Shared → Prop} (ha : 0 ≤ a) (hb : a < 1000) (h : ∀ v, v = a * 16 → Q (.int v s.toks) { s with toks := s.toks + 1 }) : wpAny (model prog w) A (binaryOp .LShift (.int a t) (.int 4 u)) Q E s :=
  PyProof.Rows.lshift_int_small (by decide) (by decide) (by omega) (h _ rfl)
theorem shl2 {a : Int} {t u : Tok} {Q : Value → Shared → Prop} (ha : 0 ≤ a) (hb : a < 1000) (h : ∀ v, v = a * 4 → Q (.int v s.toks) { s with toks := s.toks + 1 }) : wpAny (model prog w) A (binaryOp .LShift (.int a t) (.int 2 u)) Q E s :=
  PyProof.Rows.lshift_int_small (by decide) (by decide) (by omega) (h _ rfl)
end

theorem b64at_range (v : Int) : 0 ≤ b64at v ∧ b64at v < 256 := by
  unfold b64at
  have := (b64tab.getD v.toNat 0).toNat_lt
  omega
theorem b64_bytes (pre : List Int) : ∀ n ∈ (b64fold pre).2.2, 0 ≤ n ∧ n < 256 := by
  have go : ∀ (l : List Int) (c : Int × Int × List Int), (∀ n ∈ c.2.2, 0 ≤ n ∧ n < 256) → ∀ n ∈ (l.foldl b64turn c).2.2, 0 ≤ n ∧ n < 256 := by
    intro l
    induction l with
    | nil => intro c hc; exact hc
    | cons x l ih =>
      intro c hc
      rw [List.foldl_cons]
      refine ih _ ?_
      have one : ∀ (zs : List Int) (v : Int), (∀ n ∈ zs, 0 ≤ n ∧ n < 256) → ∀ n ∈ zs ++ [b64at v], 0 ≤ n ∧ n < 256 := by
        intro zs v hz n hn
        rcases List.mem_append.mp hn with hn | hn
        · exact hz n hn
        · rw [List.mem_singleton.mp hn]; exact b64at_range v
      unfold b64turn
      split
      · exact one _ _ (one _ _ hc)
      · split
        · exact one _ _ hc
        · exact one _ _ hc
  exact go pre _ (fun _ h => nomatch h)
def b64out (ks : List Int) : List Int :=
  if (b64fold ks).1 = 2 then (b64fold ks).2.2 ++ [b64at ((b64fold ks).2.1 % 4 * 16)] ++ [61] ++ [61]
  else if (b64fold ks).1 = 4 then (b64fold ks).2.2 ++ [b64at ((b64fold ks).2.1 % 16 * 4)] ++ [61]
  else (b64fold ks).2.2
theorem b64out_bytes (ks : List Int) : ∀ n ∈ b64out ks, 0 ≤ n ∧ n < 256 := by
  have h0 := b64_bytes ks
  have one : ∀ (zs : List Int) (v : Int), 0 ≤ v ∧ v < 256 → (∀ n ∈ zs, 0 ≤ n ∧ n < 256) → ∀ n ∈ zs ++ [v], 0 ≤ n ∧ n < 256 := by
    intro zs v hv hz n hn
    rcases List.mem_append.mp hn with hn | hn
    · exact hz n hn
    · rw [List.mem_singleton.mp hn]; exact hv
  unfold b64out
  split
  · exact one _ _ (by decide) (one _ _ (by decide) (one _ _ (b64at_range _) h0))
  · split
    · exact one _ _ (by decide) (one _ _ (b64at_range _) h0)
    · exact h0
theorem b64_o0 {ks : List Int} {lc : Int} {zs : List Int} (h : (0, lc, zs) = b64fold ks) : zs = b64out ks := by
  unfold b64out; rw [← h]; rfl
theorem b64_o2 {ks : List Int} {lc v v' : Int} {zs : List Int} (h : (2, lc, zs) = b64fold ks) (hv : v = lc % 4) (hv' : v' = v * 16) : zs ++ [b64at v'] ++ [61] ++ [61] = b64out ks := by
  subst hv' hv; unfold b64out; rw [← h]; rfl
theorem b64_o4 {ks : List Int} {lc v v' : Int} {zs : List Int} (h : (4, lc, zs) = b64fold ks) (hv : v = lc % 16) (hv' : v' = v * 4) : zs ++ [b64at v'] ++ [61] = b64out ks := by
  subst hv' hv; unfold b64out; rw [← h]; rfl
section
variable {prog : Program} {w : World} {A : Around} {E : Value → Shared → Prop} {s : Shared}
theorem call_bytes_b64 {h₀ : Heap} {L D : Addr} {m : Str → Option Value} {out : Array Value} {ep : Nat} {rest : List (Addr × Obj)} {zs ks : List Int} {Q : Value → Shared → Prop} (hh : A.handled = none) (F : Fr h₀ L s.heap m) (N : News h₀ L s.heap ((D, W.listOf out ep) :: rest))
    (hi : IntsAre out.toList zs) (he : zs = b64out ks) (hz : zs.length ≤ 3000000) (h : ∀ h' t' k, Fr h₀ L h' m → News h₀ L h' ((D, W.listOf out ep) :: rest) → Q (.bytes (byteArr (b64out ks)) t') { s with heap := h', toks := k }) :
    wpAny (model prog w) A (call (.type "bytes") [.ref D]) Q E s := by
  subst he
  have hl : s.heap.IsList D out.toList.toArray := ⟨_, (N _ (.head _)).1, rfl, _, by rw [Array.toArray_toList]⟩
  exact call_bytes_ints hl hi (b64out_bytes ks) (by rw [hi.length, sizeLine_eq]; omega) hh fun h' t' k hk => h h' t' k (F.keptAll hk) (N.grown hk)
end
theorem b64_lb2 {pre : List Int} {lb lc : Int} {zs : List Int} (h : (lb, lc, zs) = b64fold pre) : (lb = 0 ∨ lb = 2 ∨ lb = 4) ∧ 0 ≤ lc ∧ lc < 65536 := by
  have := b64_lb pre
  rw [← h] at this
  exact this
end Mine
-- Hd
namespace Mine
set_option compiler.extract_closed false
set_option maxRecDepth 100000
set_option maxHeartbeats 8000000
noncomputable abbrev prg : Program := PySem.Challenge.rw_il0164_01.row.toRowW.prog
noncomputable def stA (k : Nat) : Stmt := match prg.main.body[k]? with | some s => s | none => .Pass ⟨0, 0, 0, 0⟩
noncomputable def fnA : Stmt → Arguments | .FunctionDef _ a _ _ _ _ _ _ _ _ => a | _ => ⟨[], [], none, [], [], none, []⟩
noncomputable def fnB : Stmt → FuncBody | .FunctionDef _ _ b _ _ _ _ _ _ _ => .stmts b | _ => .stmts []
noncomputable def fnS : Stmt → PySem.Scope | .FunctionDef _ _ _ _ _ _ s _ _ _ => s | _ => default
noncomputable def fA0 : Arguments := fnA (stA 1)
noncomputable def fB0 : FuncBody := fnB (stA 1)
noncomputable def fS0 : PySem.Scope := fnS (stA 1)
noncomputable def fA1 : Arguments := fnA (stA 3)
noncomputable def fB1 : FuncBody := fnB (stA 3)
noncomputable def fS1 : PySem.Scope := fnS (stA 3)
noncomputable def fA2 : Arguments := fnA (stA 4)
noncomputable def fB2 : FuncBody := fnB (stA 4)
noncomputable def fS2 : PySem.Scope := fnS (stA 4)
noncomputable def fA3 : Arguments := fnA (stA 6)
noncomputable def fB3 : FuncBody := fnB (stA 6)
noncomputable def fS3 : PySem.Scope := fnS (stA 6)
noncomputable def fA4 : Arguments := fnA (stA 8)
noncomputable def fB4 : FuncBody := fnB (stA 8)
noncomputable def fS4 : PySem.Scope := fnS (stA 8)
noncomputable def fA5 : Arguments := fnA (stA 21)
noncomputable def fB5 : FuncBody := fnB (stA 21)
noncomputable def fS5 : PySem.Scope := fnS (stA 21)
noncomputable def fA6 : Arguments := fnA (stA 22)
noncomputable def fB6 : FuncBody := fnB (stA 22)
noncomputable def fS6 : PySem.Scope := fnS (stA 22)
noncomputable def fA7 : Arguments := fnA (stA 26)
noncomputable def fB7 : FuncBody := fnB (stA 26)
noncomputable def fS7 : PySem.Scope := fnS (stA 26)
noncomputable def fA8 : Arguments := fnA (stA 27)
noncomputable def fB8 : FuncBody := fnB (stA 27)
noncomputable def fS8 : PySem.Scope := fnS (stA 27)
noncomputable def fA9 : Arguments := fnA (stA 29)
noncomputable def fB9 : FuncBody := fnB (stA 29)
noncomputable def fS9 : PySem.Scope := fnS (stA 29)
noncomputable def fA10 : Arguments := fnA (stA 31)
noncomputable def fB10 : FuncBody := fnB (stA 31)
noncomputable def fS10 : PySem.Scope := fnS (stA 31)
noncomputable def fA11 : Arguments := fnA (stA 33)
noncomputable def fB11 : FuncBody := fnB (stA 33)
noncomputable def fS11 : PySem.Scope := fnS (stA 33)
noncomputable def fA12 : Arguments := fnA (stA 34)
noncomputable def fB12 : FuncBody := fnB (stA 34)
noncomputable def fS12 : PySem.Scope := fnS (stA 34)
noncomputable def fA13 : Arguments := fnA (stA 35)
noncomputable def fB13 : FuncBody := fnB (stA 35)
noncomputable def fS13 : PySem.Scope := fnS (stA 35)
noncomputable def fA14 : Arguments := fnA (stA 36)
noncomputable def fB14 : FuncBody := fnB (stA 36)
noncomputable def fS14 : PySem.Scope := fnS (stA 36)
noncomputable def fA15 : Arguments := fnA (stA 37)
noncomputable def fB15 : FuncBody := fnB (stA 37)
noncomputable def fS15 : PySem.Scope := fnS (stA 37)
noncomputable def fA16 : Arguments := fnA (stA 38)
noncomputable def fB16 : FuncBody := fnB (stA 38)
noncomputable def fS16 : PySem.Scope := fnS (stA 38)
noncomputable def ho41 : Params → Obj := fun P =>
  { cls := Value.type "dict",
    data :=
      Data.dict
        #[{ hash := PyData.keyHash P (Str.ofString "__name__"), key := Value.str (Str.ofString "__name__") 1, val := Value.str (Str.ofString "builtins") 160 },
          { hash := PyData.keyHash P (Str.ofString "__doc__"), key := Value.str (Str.ofString "__doc__") 2, val := Value.builtin "builtins.__doc__:str#opaque" },
          { hash := PyData.keyHash P (Str.ofString "__package__"), key := Value.str (Str.ofString "__package__") 3, val := Value.builtin "builtins.__package__:str#opaque" },
          { hash := PyData.keyHash P (Str.ofString "__loader__"), key := Value.str (Str.ofString "__loader__") 4, val := Value.builtin "builtins.__loader__:shared#opaque" },
          { hash := PyData.keyHash P (Str.ofString "__spec__"), key := Value.str (Str.ofString "__spec__") 5, val := Value.builtin "builtins.__spec__#opaque" },
          { hash := PyData.keyHash P (Str.ofString "__build_class__"), key := Value.str (Str.ofString "__build_class__") 6, val := Value.builtin "__build_class__" },
          { hash := PyData.keyHash P (Str.ofString "__import__"), key := Value.str (Str.ofString "__import__") 7, val := Value.builtin "__import__" },
          { hash := PyData.keyHash P (Str.ofString "abs"), key := Value.str (Str.ofString "abs") 8, val := Value.builtin "abs" },
          { hash := PyData.keyHash P (Str.ofString "all"), key := Value.str (Str.ofString "all") 9, val := Value.builtin "all" },
          { hash := PyData.keyHash P (Str.ofString "any"), key := Value.str (Str.ofString "any") 10, val := Value.builtin "any" },
          { hash := PyData.keyHash P (Str.ofString "ascii"), key := Value.str (Str.ofString "ascii") 11, val := Value.builtin "ascii" },
          { hash := PyData.keyHash P (Str.ofString "bin"), key := Value.str (Str.ofString "bin") 12, val := Value.builtin "bin" },
          { hash := PyData.keyHash P (Str.ofString "breakpoint"), key := Value.str (Str.ofString "breakpoint") 13, val := Value.builtin "breakpoint" },
          { hash := PyData.keyHash P (Str.ofString "callable"), key := Value.str (Str.ofString "callable") 14, val := Value.builtin "callable" },
          { hash := PyData.keyHash P (Str.ofString "chr"), key := Value.str (Str.ofString "chr") 15, val := Value.builtin "chr" },
          { hash := PyData.keyHash P (Str.ofString "compile"), key := Value.str (Str.ofString "compile") 16, val := Value.builtin "compile" },
          { hash := PyData.keyHash P (Str.ofString "delattr"), key := Value.str (Str.ofString "delattr") 17, val := Value.builtin "delattr" },
          { hash := PyData.keyHash P (Str.ofString "dir"), key := Value.str (Str.ofString "dir") 18, val := Value.builtin "dir" },
          { hash := PyData.keyHash P (Str.ofString "divmod"), key := Value.str (Str.ofString "divmod") 19, val := Value.builtin "divmod" },
          { hash := PyData.keyHash P (Str.ofString "eval"), key := Value.str (Str.ofString "eval") 20, val := Value.builtin "eval" },
          { hash := PyData.keyHash P (Str.ofString "exec"), key := Value.str (Str.ofString "exec") 21, val := Value.builtin "exec" },
          { hash := PyData.keyHash P (Str.ofString "format"), key := Value.str (Str.ofString "format") 22, val := Value.builtin "format" },
          { hash := PyData.keyHash P (Str.ofString "getattr"), key := Value.str (Str.ofString "getattr") 23, val := Value.builtin "getattr" },
          { hash := PyData.keyHash P (Str.ofString "globals"), key := Value.str (Str.ofString "globals") 24, val := Value.builtin "globals" },
          { hash := PyData.keyHash P (Str.ofString "hasattr"), key := Value.str (Str.ofString "hasattr") 25, val := Value.builtin "hasattr" },
          { hash := PyData.keyHash P (Str.ofString "hash"), key := Value.str (Str.ofString "hash") 26, val := Value.builtin "hash" },
          { hash := PyData.keyHash P (Str.ofString "hex"), key := Value.str (Str.ofString "hex") 27, val := Value.builtin "hex" },
          { hash := PyData.keyHash P (Str.ofString "id"), key := Value.str (Str.ofString "id") 28, val := Value.builtin "id" },
          { hash := PyData.keyHash P (Str.ofString "input"), key := Value.str (Str.ofString "input") 29, val := Value.builtin "input" },
          { hash := PyData.keyHash P (Str.ofString "isinstance"), key := Value.str (Str.ofString "isinstance") 30, val := Value.builtin "isinstance" },
          { hash := PyData.keyHash P (Str.ofString "issubclass"), key := Value.str (Str.ofString "issubclass") 31, val := Value.builtin "issubclass" },
          { hash := PyData.keyHash P (Str.ofString "iter"), key := Value.str (Str.ofString "iter") 32, val := Value.builtin "iter" },
          { hash := PyData.keyHash P (Str.ofString "aiter"), key := Value.str (Str.ofString "aiter") 33, val := Value.builtin "aiter" },
          { hash := PyData.keyHash P (Str.ofString "len"), key := Value.str (Str.ofString "len") 34, val := Value.builtin "len" },
          { hash := PyData.keyHash P (Str.ofString "locals"), key := Value.str (Str.ofString "locals") 35, val := Value.builtin "locals" },
          { hash := PyData.keyHash P (Str.ofString "max"), key := Value.str (Str.ofString "max") 36, val := Value.builtin "max" },
          { hash := PyData.keyHash P (Str.ofString "min"), key := Value.str (Str.ofString "min") 37, val := Value.builtin "min" },
          { hash := PyData.keyHash P (Str.ofString "next"), key := Value.str (Str.ofString "next") 38, val := Value.builtin "next" },
          { hash := PyData.keyHash P (Str.ofString "anext"), key := Value.str (Str.ofString "anext") 39, val := Value.builtin "anext" },
          { hash := PyData.keyHash P (Str.ofString "oct"), key := Value.str (Str.ofString "oct") 40, val := Value.builtin "oct" },
          { hash := PyData.keyHash P (Str.ofString "ord"), key := Value.str (Str.ofString "ord") 41, val := Value.builtin "ord" },
          { hash := PyData.keyHash P (Str.ofString "pow"), key := Value.str (Str.ofString "pow") 42, val := Value.builtin "pow" },
          { hash := PyData.keyHash P (Str.ofString "print"), key := Value.str (Str.ofString "print") 43, val := Value.builtin "print" },
          { hash := PyData.keyHash P (Str.ofString "repr"), key := Value.str (Str.ofString "repr") 44, val := Value.builtin "repr" },
          { hash := PyData.keyHash P (Str.ofString "round"), key := Value.str (Str.ofString "round") 45, val := Value.builtin "round" },
          { hash := PyData.keyHash P (Str.ofString "setattr"), key := Value.str (Str.ofString "setattr") 46, val := Value.builtin "setattr" },
          { hash := PyData.keyHash P (Str.ofString "sorted"), key := Value.str (Str.ofString "sorted") 47, val := Value.builtin "sorted" },
          { hash := PyData.keyHash P (Str.ofString "sum"), key := Value.str (Str.ofString "sum") 48, val := Value.builtin "sum" },
          { hash := PyData.keyHash P (Str.ofString "vars"), key := Value.str (Str.ofString "vars") 49, val := Value.builtin "vars" },
          { hash := PyData.keyHash P (Str.ofString "None"), key := Value.str (Str.ofString "None") 50, val := Value.none },
          { hash := PyData.keyHash P (Str.ofString "Ellipsis"), key := Value.str (Str.ofString "Ellipsis") 51, val := Value.ellipsis },
          { hash := PyData.keyHash P (Str.ofString "NotImplemented"), key := Value.str (Str.ofString "NotImplemented") 52, val := Value.notImplemented },
          { hash := PyData.keyHash P (Str.ofString "False"), key := Value.str (Str.ofString "False") 53, val := Value.bool false },
          { hash := PyData.keyHash P (Str.ofString "True"), key := Value.str (Str.ofString "True") 54, val := Value.bool true },
          { hash := PyData.keyHash P (Str.ofString "bool"), key := Value.str (Str.ofString "bool") 55, val := Value.type "bool" },
          { hash := PyData.keyHash P (Str.ofString "memoryview"), key := Value.str (Str.ofString "memoryview") 56, val := Value.type "memoryview" },
          { hash := PyData.keyHash P (Str.ofString "bytearray"), key := Value.str (Str.ofString "bytearray") 57, val := Value.type "bytearray" },
          { hash := PyData.keyHash P (Str.ofString "bytes"), key := Value.str (Str.ofString "bytes") 58, val := Value.type "bytes" },
          { hash := PyData.keyHash P (Str.ofString "classmethod"), key := Value.str (Str.ofString "classmethod") 59, val := Value.type "classmethod" },
          { hash := PyData.keyHash P (Str.ofString "complex"), key := Value.str (Str.ofString "complex") 60, val := Value.type "complex" },
          { hash := PyData.keyHash P (Str.ofString "dict"), key := Value.str (Str.ofString "dict") 61, val := Value.type "dict" },
          { hash := PyData.keyHash P (Str.ofString "enumerate"), key := Value.str (Str.ofString "enumerate") 62, val := Value.type "enumerate" },
          { hash := PyData.keyHash P (Str.ofString "filter"), key := Value.str (Str.ofString "filter") 63, val := Value.type "filter" },
          { hash := PyData.keyHash P (Str.ofString "float"), key := Value.str (Str.ofString "float") 64, val := Value.type "float" },
          { hash := PyData.keyHash P (Str.ofString "frozenset"), key := Value.str (Str.ofString "frozenset") 65, val := Value.type "frozenset" },
          { hash := PyData.keyHash P (Str.ofString "property"), key := Value.str (Str.ofString "property") 66, val := Value.type "property" },
          { hash := PyData.keyHash P (Str.ofString "int"), key := Value.str (Str.ofString "int") 67, val := Value.type "int" },
          { hash := PyData.keyHash P (Str.ofString "list"), key := Value.str (Str.ofString "list") 68, val := Value.type "list" },
          { hash := PyData.keyHash P (Str.ofString "map"), key := Value.str (Str.ofString "map") 69, val := Value.type "map" },
          { hash := PyData.keyHash P (Str.ofString "object"), key := Value.str (Str.ofString "object") 70, val := Value.type "object" },
          { hash := PyData.keyHash P (Str.ofString "range"), key := Value.str (Str.ofString "range") 71, val := Value.type "range" },
          { hash := PyData.keyHash P (Str.ofString "reversed"), key := Value.str (Str.ofString "reversed") 72, val := Value.type "reversed" },
          { hash := PyData.keyHash P (Str.ofString "set"), key := Value.str (Str.ofString "set") 73, val := Value.type "set" },
          { hash := PyData.keyHash P (Str.ofString "slice"), key := Value.str (Str.ofString "slice") 74, val := Value.type "slice" },
          { hash := PyData.keyHash P (Str.ofString "staticmethod"), key := Value.str (Str.ofString "staticmethod") 75, val := Value.type "staticmethod" },
          { hash := PyData.keyHash P (Str.ofString "str"), key := Value.str (Str.ofString "str") 76, val := Value.type "str" },
          { hash := PyData.keyHash P (Str.ofString "super"), key := Value.str (Str.ofString "super") 77, val := Value.type "super" },
          { hash := PyData.keyHash P (Str.ofString "tuple"), key := Value.str (Str.ofString "tuple") 78, val := Value.type "tuple" },
          { hash := PyData.keyHash P (Str.ofString "type"), key := Value.str (Str.ofString "type") 79, val := Value.type "type" },
          { hash := PyData.keyHash P (Str.ofString "zip"), key := Value.str (Str.ofString "zip") 80, val := Value.type "zip" },
          { hash := PyData.keyHash P (Str.ofString "__debug__"), key := Value.str (Str.ofString "__debug__") 81, val := Value.bool true },
          { hash := PyData.keyHash P (Str.ofString "BaseException"), key := Value.str (Str.ofString "BaseException") 82, val := Value.type "BaseException" },
          { hash := PyData.keyHash P (Str.ofString "BaseExceptionGroup"), key := Value.str (Str.ofString "BaseExceptionGroup") 83, val := Value.type "BaseExceptionGroup" },
          { hash := PyData.keyHash P (Str.ofString "Exception"), key := Value.str (Str.ofString "Exception") 84, val := Value.type "Exception" },
          { hash := PyData.keyHash P (Str.ofString "GeneratorExit"), key := Value.str (Str.ofString "GeneratorExit") 85, val := Value.type "GeneratorExit" },
          { hash := PyData.keyHash P (Str.ofString "KeyboardInterrupt"), key := Value.str (Str.ofString "KeyboardInterrupt") 86, val := Value.type "KeyboardInterrupt" },
          { hash := PyData.keyHash P (Str.ofString "SystemExit"), key := Value.str (Str.ofString "SystemExit") 87, val := Value.type "SystemExit" },
          { hash := PyData.keyHash P (Str.ofString "ArithmeticError"), key := Value.str (Str.ofString "ArithmeticError") 88, val := Value.type "ArithmeticError" },
          { hash := PyData.keyHash P (Str.ofString "AssertionError"), key := Value.str (Str.ofString "AssertionError") 89, val := Value.type "AssertionError" },
          { hash := PyData.keyHash P (Str.ofString "AttributeError"), key := Value.str (Str.ofString "AttributeError") 90, val := Value.type "AttributeError" },
          { hash := PyData.keyHash P (Str.ofString "BufferError"), key := Value.str (Str.ofString "BufferError") 91, val := Value.type "BufferError" },
          { hash := PyData.keyHash P (Str.ofString "EOFError"), key := Value.str (Str.ofString "EOFError") 92, val := Value.type "EOFError" },
          { hash := PyData.keyHash P (Str.ofString "ImportError"), key := Value.str (Str.ofString "ImportError") 93, val := Value.type "ImportError" },
          { hash := PyData.keyHash P (Str.ofString "LookupError"), key := Value.str (Str.ofString "LookupError") 94, val := Value.type "LookupError" },
          { hash := PyData.keyHash P (Str.ofString "MemoryError"), key := Value.str (Str.ofString "MemoryError") 95, val := Value.type "MemoryError" },
          { hash := PyData.keyHash P (Str.ofString "NameError"), key := Value.str (Str.ofString "NameError") 96, val := Value.type "NameError" },
          { hash := PyData.keyHash P (Str.ofString "OSError"), key := Value.str (Str.ofString "OSError") 97, val := Value.type "OSError" },
          { hash := PyData.keyHash P (Str.ofString "ReferenceError"), key := Value.str (Str.ofString "ReferenceError") 98, val := Value.type "ReferenceError" },
          { hash := PyData.keyHash P (Str.ofString "RuntimeError"), key := Value.str (Str.ofString "RuntimeError") 99, val := Value.type "RuntimeError" },
          { hash := PyData.keyHash P (Str.ofString "StopAsyncIteration"), key := Value.str (Str.ofString "StopAsyncIteration") 100, val := Value.type "StopAsyncIteration" },
          { hash := PyData.keyHash P (Str.ofString "StopIteration"), key := Value.str (Str.ofString "StopIteration") 101, val := Value.type "StopIteration" },
          { hash := PyData.keyHash P (Str.ofString "SyntaxError"), key := Value.str (Str.ofString "SyntaxError") 102, val := Value.type "SyntaxError" },
          { hash := PyData.keyHash P (Str.ofString "SystemError"), key := Value.str (Str.ofString "SystemError") 103, val := Value.type "SystemError" },
          { hash := PyData.keyHash P (Str.ofString "TypeError"), key := Value.str (Str.ofString "TypeError") 104, val := Value.type "TypeError" },
          { hash := PyData.keyHash P (Str.ofString "ValueError"), key := Value.str (Str.ofString "ValueError") 105, val := Value.type "ValueError" },
          { hash := PyData.keyHash P (Str.ofString "Warning"), key := Value.str (Str.ofString "Warning") 106, val := Value.type "Warning" },
          { hash := PyData.keyHash P (Str.ofString "FloatingPointError"), key := Value.str (Str.ofString "FloatingPointError") 107, val := Value.type "FloatingPointError" },
          { hash := PyData.keyHash P (Str.ofString "OverflowError"), key := Value.str (Str.ofString "OverflowError") 108, val := Value.type "OverflowError" },
          { hash := PyData.keyHash P (Str.ofString "ZeroDivisionError"), key := Value.str (Str.ofString "ZeroDivisionError") 109, val := Value.type "ZeroDivisionError" },
          { hash := PyData.keyHash P (Str.ofString "BytesWarning"), key := Value.str (Str.ofString "BytesWarning") 110, val := Value.type "BytesWarning" },
          { hash := PyData.keyHash P (Str.ofString "DeprecationWarning"), key := Value.str (Str.ofString "DeprecationWarning") 111, val := Value.type "DeprecationWarning" },
          { hash := PyData.keyHash P (Str.ofString "EncodingWarning"), key := Value.str (Str.ofString "EncodingWarning") 112, val := Value.type "EncodingWarning" },
          { hash := PyData.keyHash P (Str.ofString "FutureWarning"), key := Value.str (Str.ofString "FutureWarning") 113, val := Value.type "FutureWarning" },
          { hash := PyData.keyHash P (Str.ofString "ImportWarning"), key := Value.str (Str.ofString "ImportWarning") 114, val := Value.type "ImportWarning" },
          { hash := PyData.keyHash P (Str.ofString "PendingDeprecationWarning"), key := Value.str (Str.ofString "PendingDeprecationWarning") 115, val := Value.type "PendingDeprecationWarning" },
          { hash := PyData.keyHash P (Str.ofString "ResourceWarning"), key := Value.str (Str.ofString "ResourceWarning") 116, val := Value.type "ResourceWarning" },
          { hash := PyData.keyHash P (Str.ofString "RuntimeWarning"), key := Value.str (Str.ofString "RuntimeWarning") 117, val := Value.type "RuntimeWarning" },
          { hash := PyData.keyHash P (Str.ofString "SyntaxWarning"), key := Value.str (Str.ofString "SyntaxWarning") 118, val := Value.type "SyntaxWarning" },
          { hash := PyData.keyHash P (Str.ofString "UnicodeWarning"), key := Value.str (Str.ofString "UnicodeWarning") 119, val := Value.type "UnicodeWarning" },
          { hash := PyData.keyHash P (Str.ofString "UserWarning"), key := Value.str (Str.ofString "UserWarning") 120, val := Value.type "UserWarning" },
          { hash := PyData.keyHash P (Str.ofString "BlockingIOError"), key := Value.str (Str.ofString "BlockingIOError") 121, val := Value.type "BlockingIOError" },
          { hash := PyData.keyHash P (Str.ofString "ChildProcessError"), key := Value.str (Str.ofString "ChildProcessError") 122, val := Value.type "ChildProcessError" },
          { hash := PyData.keyHash P (Str.ofString "ConnectionError"), key := Value.str (Str.ofString "ConnectionError") 123, val := Value.type "ConnectionError" },
          { hash := PyData.keyHash P (Str.ofString "FileExistsError"), key := Value.str (Str.ofString "FileExistsError") 124, val := Value.type "FileExistsError" },
          { hash := PyData.keyHash P (Str.ofString "FileNotFoundError"), key := Value.str (Str.ofString "FileNotFoundError") 125, val := Value.type "FileNotFoundError" },
          { hash := PyData.keyHash P (Str.ofString "InterruptedError"), key := Value.str (Str.ofString "InterruptedError") 126, val := Value.type "InterruptedError" },
          { hash := PyData.keyHash P (Str.ofString "IsADirectoryError"), key := Value.str (Str.ofString "IsADirectoryError") 127, val := Value.type "IsADirectoryError" },
          { hash := PyData.keyHash P (Str.ofString "NotADirectoryError"), key := Value.str (Str.ofString "NotADirectoryError") 128, val := Value.type "NotADirectoryError" },
          { hash := PyData.keyHash P (Str.ofString "PermissionError"), key := Value.str (Str.ofString "PermissionError") 129, val := Value.type "PermissionError" },
          { hash := PyData.keyHash P (Str.ofString "ProcessLookupError"), key := Value.str (Str.ofString "ProcessLookupError") 130, val := Value.type "ProcessLookupError" },
          { hash := PyData.keyHash P (Str.ofString "TimeoutError"), key := Value.str (Str.ofString "TimeoutError") 131, val := Value.type "TimeoutError" },
          { hash := PyData.keyHash P (Str.ofString "IndentationError"), key := Value.str (Str.ofString "IndentationError") 132, val := Value.type "IndentationError" },
          { hash := PyData.keyHash P (Str.ofString "_IncompleteInputError"), key := Value.str (Str.ofString "_IncompleteInputError") 133, val := Value.type "_IncompleteInputError" },
          { hash := PyData.keyHash P (Str.ofString "IndexError"), key := Value.str (Str.ofString "IndexError") 134, val := Value.type "IndexError" },
          { hash := PyData.keyHash P (Str.ofString "KeyError"), key := Value.str (Str.ofString "KeyError") 135, val := Value.type "KeyError" },
          { hash := PyData.keyHash P (Str.ofString "ModuleNotFoundError"), key := Value.str (Str.ofString "ModuleNotFoundError") 136, val := Value.type "ModuleNotFoundError" },
          { hash := PyData.keyHash P (Str.ofString "NotImplementedError"), key := Value.str (Str.ofString "NotImplementedError") 137, val := Value.type "NotImplementedError" },
          { hash := PyData.keyHash P (Str.ofString "PythonFinalizationError"), key := Value.str (Str.ofString "PythonFinalizationError") 138, val := Value.type "PythonFinalizationError" },
          { hash := PyData.keyHash P (Str.ofString "RecursionError"), key := Value.str (Str.ofString "RecursionError") 139, val := Value.type "RecursionError" },
          { hash := PyData.keyHash P (Str.ofString "UnboundLocalError"), key := Value.str (Str.ofString "UnboundLocalError") 140, val := Value.type "UnboundLocalError" },
          { hash := PyData.keyHash P (Str.ofString "UnicodeError"), key := Value.str (Str.ofString "UnicodeError") 141, val := Value.type "UnicodeError" },
          { hash := PyData.keyHash P (Str.ofString "BrokenPipeError"), key := Value.str (Str.ofString "BrokenPipeError") 142, val := Value.type "BrokenPipeError" },
          { hash := PyData.keyHash P (Str.ofString "ConnectionAbortedError"), key := Value.str (Str.ofString "ConnectionAbortedError") 143, val := Value.type "ConnectionAbortedError" },
          { hash := PyData.keyHash P (Str.ofString "ConnectionRefusedError"), key := Value.str (Str.ofString "ConnectionRefusedError") 144, val := Value.type "ConnectionRefusedError" },
          { hash := PyData.keyHash P (Str.ofString "ConnectionResetError"), key := Value.str (Str.ofString "ConnectionResetError") 145, val := Value.type "ConnectionResetError" },
          { hash := PyData.keyHash P (Str.ofString "TabError"), key := Value.str (Str.ofString "TabError") 146, val := Value.type "TabError" },
          { hash := PyData.keyHash P (Str.ofString "UnicodeDecodeError"), key := Value.str (Str.ofString "UnicodeDecodeError") 147, val := Value.type "UnicodeDecodeError" },
          { hash := PyData.keyHash P (Str.ofString "UnicodeEncodeError"), key := Value.str (Str.ofString "UnicodeEncodeError") 148, val := Value.type "UnicodeEncodeError" },
          { hash := PyData.keyHash P (Str.ofString "UnicodeTranslateError"), key := Value.str (Str.ofString "UnicodeTranslateError") 149, val := Value.type "UnicodeTranslateError" },
          { hash := PyData.keyHash P (Str.ofString "ExceptionGroup"), key := Value.str (Str.ofString "ExceptionGroup") 150, val := Value.type "ExceptionGroup" },
          { hash := PyData.keyHash P (Str.ofString "EnvironmentError"), key := Value.str (Str.ofString "EnvironmentError") 151, val := Value.type "OSError" },
          { hash := PyData.keyHash P (Str.ofString "IOError"), key := Value.str (Str.ofString "IOError") 152, val := Value.type "OSError" },
          { hash := PyData.keyHash P (Str.ofString "open"), key := Value.str (Str.ofString "open") 153, val := Value.builtin "open" },
          { hash := PyData.keyHash P (Str.ofString "quit"), key := Value.str (Str.ofString "quit") 154, val := Value.builtin "builtins.quit#opaque" },
          { hash := PyData.keyHash P (Str.ofString "exit"), key := Value.str (Str.ofString "exit") 155, val := Value.builtin "builtins.exit#opaque" },
          { hash := PyData.keyHash P (Str.ofString "copyright"), key := Value.str (Str.ofString "copyright") 156, val := Value.builtin "builtins.copyright#opaque" },
          { hash := PyData.keyHash P (Str.ofString "credits"), key := Value.str (Str.ofString "credits") 157, val := Value.builtin "builtins.credits#opaque" },
          { hash := PyData.keyHash P (Str.ofString "license"), key := Value.str (Str.ofString "license") 158, val := Value.builtin "builtins.license#opaque" },
          { hash := PyData.keyHash P (Str.ofString "help"), key := Value.str (Str.ofString "help") 159, val := Value.builtin "builtins.help#opaque" }]
        159 }
noncomputable def ho42 : Params → Obj := fun P =>
  { cls := Value.type "dict",
    data :=
      Data.dict
        #[{ hash := PyData.keyHash P (Str.ofString "builtins"), key := Value.str (Str.ofString "builtins") 162, val := Value.ref 4 },
          { hash := PyData.keyHash P (Str.ofString "__main__"), key := Value.str (Str.ofString "__main__") 163, val := Value.ref 5 },
          { hash := PyData.keyHash P (Str.ofString "_sre"), key := Value.str (Str.ofString "_sre") 244, val := Value.ref 12 }]
        3 }
noncomputable def ho43 : Params → Obj := fun P =>
  { cls := Value.none,
    data :=
      Data.dict
        #[{ hash := PyData.keyHash P (Str.ofString "\x69mport.loaded._sre"), key := Value.str (Str.ofString "\x69mport.loaded._sre") 183, val := Value.bool true },
          { hash := PyData.keyHash P (Str.ofString "class._frozen_importlib.BuiltinImporter"), key := Value.str (Str.ofString "class._frozen_importlib.BuiltinImporter") 185, val := Value.ref 14 },
          { hash := PyData.keyHash P (Str.ofString "watched.\x69mport"), key := Value.str (Str.ofString "watched.\x69mport") 206, val := Value.ref 18 },
          { hash := PyData.keyHash P (Str.ofString "class._frozen_importlib.ModuleSpec"), key := Value.str (Str.ofString "class._frozen_importlib.ModuleSpec") 216, val := Value.ref 22 },
          { hash := PyData.keyHash P (Str.ofString "sys.modules.booked-epoch"), key := Value.str (Str.ofString "sys.modules.booked-epoch") 245, val := Value.int 3 0 },
          { hash := PyData.keyHash P (Str.ofString "\x69mport.later-laid._sre"), key := Value.str (Str.ofString "\x69mport.later-laid._sre") 270, val := Value.bool true },
          { hash := PyData.keyHash P (Str.ofString "watched.library"), key := Value.str (Str.ofString "watched.library") 272, val := Value.ref 27 },
          { hash := PyData.keyHash P (Str.ofString "watched.library-objects"), key := Value.str (Str.ofString "watched.library-objects") 0, val := Value.str (Str.ofString "\x0c") 0 },
          { hash := PyData.keyHash P (Str.ofString "watched.library-deep._sre"), key := Value.str (Str.ofString "watched.library-deep._sre") 273,
            val := Value.str (Str.ofString "\x04\x00\x00\x0b\x04\x00\x00\x0b\x04\x00\x00\x03\x04\x00\x00\x0b\x08\x04dict\x02") 0 }]
        9 }
noncomputable def ho44 : Params → Obj := fun P =>
  { cls := Value.type "dict",
    data :=
      Data.dict
        #[{ hash := PyData.keyHash P (Str.ofString "__name__"), key := Value.str (Str.ofString "__name__") 165, val := Value.str (Str.ofString "__main__") 164 },
          { hash := PyData.keyHash P (Str.ofString "__doc__"), key := Value.str (Str.ofString "__doc__") 166, val := Value.none },
          { hash := PyData.keyHash P (Str.ofString "__package__"), key := Value.str (Str.ofString "__package__") 167, val := Value.none },
          { hash := PyData.keyHash P (Str.ofString "__loader__"), key := Value.str (Str.ofString "__loader__") 168, val := Value.builtin "__main__.__loader__#opaque" },
          { hash := PyData.keyHash P (Str.ofString "__spec__"), key := Value.str (Str.ofString "__spec__") 169, val := Value.none },
          { hash := PyData.keyHash P (Str.ofString "__annotations__"), key := Value.str (Str.ofString "__annotations__") 170, val := Value.ref 6 },
          { hash := PyData.keyHash P (Str.ofString "__builtins__"), key := Value.str (Str.ofString "__builtins__") 171, val := Value.ref 4 },
          { hash := PyData.keyHash P (Str.ofString "__file__"), key := Value.str (Str.ofString "__file__") 173, val := Value.str (Str.ofString "/claim/cut.py") 172 },
          { hash := PyData.keyHash P (Str.ofString "__cached__"), key := Value.str (Str.ofString "__cached__") 174, val := Value.none },
          { hash := PyData.keyHash P (Str.ofString "_sre"), key := Value.str (Str.ofString "_sre") 275, val := Value.ref 12 }]
        10 }
noncomputable def ho45 : Params → Obj := fun P => { cls := Value.type "module", dict := some 0 }
noncomputable def ho46 : Params → Obj := fun P => { cls := Value.type "module", dict := some 3 }
noncomputable def ho47 : Params → Obj := fun P => { cls := Value.type "dict", data := Data.dict #[] }
noncomputable def ho48 : Params → Obj := fun P => { cls := Value.type "tuple", data := Data.seq #[] }
noncomputable def ho49 : Params → Obj := fun P => { cls := Value.none, data := Data.fields #[] }
noncomputable def ho50 : Params → Obj := fun P =>
  { cls := Value.type "code",
    data :=
      Data.fields
        #[Value.str (Str.ofString "<module>") 176, Value.str (Str.ofString "<module>") 177, Value.str (Str.ofString "/claim/cut.py") 178, Value.int 1 0, Value.int 0 0, Value.int 0 0, Value.int 0 0, Value.int 0 0, Value.ref 7,
          Value.bool false, Value.int 175 0, Value.ref 8, Value.none, Value.none, Value.none, Value.none, Value.int 179 0, Value.int 1 0, Value.str (Str.ofString "/claim/cut.py") 180] }
noncomputable def ho51 : Params → Obj := fun P => { cls := Value.type "frame", slots := #[some (Value.ref 9), some (Value.ref 3), some (Value.ref 3), none, some (Value.str (Str.ofString "__main__") 164), none, some (Value.ref 0)] }
noncomputable def ho52 : Params → Obj := fun P =>
  { cls := Value.type "dict",
    data :=
      Data.dict
        #[{ hash := PyData.keyHash P (Str.ofString "__name__"), key := Value.str (Str.ofString "__name__") 247, val := Value.str (Str.ofString "_sre") 246 },
          { hash := PyData.keyHash P (Str.ofString "__doc__"), key := Value.str (Str.ofString "__doc__") 248, val := Value.none },
          { hash := PyData.keyHash P (Str.ofString "__package__"), key := Value.str (Str.ofString "__package__") 250, val := Value.str (Str.ofString "") 249 },
          { hash := PyData.keyHash P (Str.ofString "__loader__"), key := Value.str (Str.ofString "__loader__") 251, val := Value.builtin "off-the-table:_sre.__loader__:shared#opaque" },
          { hash := PyData.keyHash P (Str.ofString "__spec__"), key := Value.str (Str.ofString "__spec__") 252, val := Value.builtin "off-the-table:_sre.__spec__:shared#opaque" },
          { hash := PyData.keyHash P (Str.ofString "compile"), key := Value.str (Str.ofString "compile") 253, val := Value.builtin "_sre.compile" },
          { hash := PyData.keyHash P (Str.ofString "template"), key := Value.str (Str.ofString "template") 254, val := Value.builtin "off-the-table:_sre.template:shared#opaque" },
          { hash := PyData.keyHash P (Str.ofString "getcodesize"), key := Value.str (Str.ofString "getcodesize") 255, val := Value.builtin "off-the-table:_sre.getcodesize:shared#opaque" },
          { hash := PyData.keyHash P (Str.ofString "ascii_iscased"), key := Value.str (Str.ofString "ascii_iscased") 256, val := Value.builtin "off-the-table:_sre.ascii_iscased:shared#opaque" },
          { hash := PyData.keyHash P (Str.ofString "unicode_iscased"), key := Value.str (Str.ofString "unicode_iscased") 257, val := Value.builtin "off-the-table:_sre.unicode_iscased:shared#opaque" },
          { hash := PyData.keyHash P (Str.ofString "ascii_tolower"), key := Value.str (Str.ofString "ascii_tolower") 258, val := Value.builtin "off-the-table:_sre.ascii_tolower:shared#opaque" },
          { hash := PyData.keyHash P (Str.ofString "unicode_tolower"), key := Value.str (Str.ofString "unicode_tolower") 259, val := Value.builtin "off-the-table:_sre.unicode_tolower:shared#opaque" },
          { hash := PyData.keyHash P (Str.ofString "MAGIC"), key := Value.str (Str.ofString "MAGIC") 261, val := Value.int 20230612 260 },
          { hash := PyData.keyHash P (Str.ofString "CODESIZE"), key := Value.str (Str.ofString "CODESIZE") 263, val := Value.int 4 262 },
          { hash := PyData.keyHash P (Str.ofString "MAXREPEAT"), key := Value.str (Str.ofString "MAXREPEAT") 265, val := Value.int 4294967295 264 },
          { hash := PyData.keyHash P (Str.ofString "MAXGROUPS"), key := Value.str (Str.ofString "MAXGROUPS") 267, val := Value.int 1073741823 266 },
          { hash := PyData.keyHash P (Str.ofString "copyright"), key := Value.str (Str.ofString "copyright") 269, val := Value.str (Str.ofString " SRE 2.2.2 Copyright (c) 1997-2002 by Secret Labs AB ") 268 }]
        17 }
noncomputable def ho53 : Params → Obj := fun P => { cls := Value.type "module", dict := some 11 }
noncomputable def ho54 : Params → Obj := fun P =>
  { cls := Value.type "dict",
    data :=
      Data.dict
        #[{ hash := PyData.keyHash P (Str.ofString "__module__"), key := Value.str (Str.ofString "__module__") 189, val := Value.str (Str.ofString "_frozen_importlib") 186 },
          { hash := PyData.keyHash P (Str.ofString "__firstlineno__"), key := Value.str (Str.ofString "__firstlineno__") 190, val := Value.int 971 187 },
          { hash := PyData.keyHash P (Str.ofString "__doc__"), key := Value.str (Str.ofString "__doc__") 191, val := Value.builtin "_frozen_importlib.BuiltinImporter.__doc__:str#opaque" },
          { hash := PyData.keyHash P (Str.ofString "_ORIGIN"), key := Value.str (Str.ofString "_ORIGIN") 192, val := Value.str (Str.ofString "built-in") 188 },
          { hash := PyData.keyHash P (Str.ofString "find_spec"), key := Value.str (Str.ofString "find_spec") 193, val := Value.builtin "_frozen_importlib.BuiltinImporter.find_spec#opaque" },
          { hash := PyData.keyHash P (Str.ofString "create_module"), key := Value.str (Str.ofString "create_module") 194, val := Value.builtin "_frozen_importlib.BuiltinImporter.create_module#opaque" },
          { hash := PyData.keyHash P (Str.ofString "exec_module"), key := Value.str (Str.ofString "exec_module") 195, val := Value.builtin "_frozen_importlib.BuiltinImporter.exec_module#opaque" },
          { hash := PyData.keyHash P (Str.ofString "get_code"), key := Value.str (Str.ofString "get_code") 196, val := Value.builtin "_frozen_importlib.BuiltinImporter.get_code#opaque" },
          { hash := PyData.keyHash P (Str.ofString "get_source"), key := Value.str (Str.ofString "get_source") 197, val := Value.builtin "_frozen_importlib.BuiltinImporter.get_source#opaque" },
          { hash := PyData.keyHash P (Str.ofString "is_package"), key := Value.str (Str.ofString "is_package") 198, val := Value.builtin "_frozen_importlib.BuiltinImporter.is_package#opaque" },
          { hash := PyData.keyHash P (Str.ofString "load_module"), key := Value.str (Str.ofString "load_module") 199, val := Value.builtin "_frozen_importlib.BuiltinImporter.load_module#opaque" },
          { hash := PyData.keyHash P (Str.ofString "__static_attributes__"), key := Value.str (Str.ofString "__static_attributes__") 200, val := Value.ref 15 },
          { hash := PyData.keyHash P (Str.ofString "__dict__"), key := Value.str (Str.ofString "__dict__") 202, val := Value.ref 16 },
          { hash := PyData.keyHash P (Str.ofString "__weakref__"), key := Value.str (Str.ofString "__weakref__") 204, val := Value.ref 17 }]
        14 }
noncomputable def ho55 : Params → Obj := fun P => { cls := Value.type "type", data := Data.cls { name := Str.ofString "BuiltinImporter", bases := [Value.type "object"], mro := [Value.ref 14, Value.type "object"], ns := 13, qualname := Str.ofString "BuiltinImporter" } }
noncomputable def ho56 : Params → Obj := fun P => { cls := Value.type "tuple", data := Data.seq #[] }
noncomputable def ho57 : Params → Obj := fun P => { cls := Value.type "getset_descriptor", data := Data.fields #[Value.str (Str.ofString "__dict__") 201, Value.ref 14, Value.builtin "function.__dict__", Value.builtin "function.__dict__#set"] }
noncomputable def ho58 : Params → Obj := fun P => { cls := Value.type "getset_descriptor", data := Data.fields #[Value.str (Str.ofString "__weakref__") 203, Value.ref 14, Value.builtin "ExceptionGroup.__weakref__", Value.none] }
noncomputable def ho59 : Params → Obj := fun P =>
  { cls := Value.none,
    data :=
      Data.seq
        #[Value.int 13 0,
          Value.str
            (Str.ofString
              "\x06½\n__module__\x06º\x11_frozen_importlib\x06¾\x0f__firstlineno__\x04»\x00ϋ\x06¿\x07__doc__\t4_frozen_importlib.BuiltinImporter.__doc__:str#opaque\x06À\x07_ORIGIN\x06¼\x08built-in\x06Á\tfind_spec\t2_frozen_importlib.BuiltinImporter.find_spec#opaque\x06Â\x0dcreate_module\t6_frozen_importlib.BuiltinImporter.create_module#opaque\x06Ã\x0bexec_module\t4_frozen_importlib.BuiltinImporter.exec_module#opaque\x06Ä\x08get_code\t1_frozen_importlib.BuiltinImporter.get_code#opaque\x06Å\nget_source\t3_frozen_importlib.BuiltinImporter.get_source#opaque\x06Æ\nis_package\t3_frozen_importlib.BuiltinImporter.is_package#opaque\x06Ç\x0bload_module\t4_frozen_importlib.BuiltinImporter.load_module#opaque\x06È\x15__static_attributes__\x04\x00\x00\x0f\x06Ê\x08__dict__\x04\x00\x00\x10\x06Ì\x0b__weakref__\x04\x00\x00\x11")
            0,
          Value.bool true, Value.bool true, Value.str (Str.ofString "") 205, Value.int 21 0,
          Value.str
            (Str.ofString
              "\x06ã\n__module__\x06Ù\x11_frozen_importlib\x06ä\x0f__firstlineno__\x04Ú\x00Ȳ\x06å\x07__doc__\t/_frozen_importlib.ModuleSpec.__doc__:str#opaque\x06æ\x08__init__\t,_frozen_importlib.ModuleSpec.__init__#opaque\x06ç\x08__repr__\t,_frozen_importlib.ModuleSpec.__repr__#opaque\x06è\x06__eq__\t*_frozen_importlib.ModuleSpec.__eq__#opaque\x06é\x06cached\t*_frozen_importlib.ModuleSpec.cached#opaque\x06ê\x06parent\t*_frozen_importlib.ModuleSpec.parent#opaque\x06ë\x0chas_location\t0_frozen_importlib.ModuleSpec.has_location#opaque\x06ì\x15__static_attributes__\x04\x00\x00\x17\x06î\x08__dict__\x04\x00\x00\x18\x06ð\x0b__weakref__\x04\x00\x00\x19\x06ñ\x08__hash__\x00")
            0,
          Value.bool true, Value.bool true, Value.str (Str.ofString "") 242]
        1 }
noncomputable def ho60 : Params → Obj := fun P => { cls := Value.type "list", data := Data.seq #[] }
noncomputable def ho61 : Params → Obj := fun P =>
  { cls := Value.type "dict",
    data :=
      Data.dict
        #[{ hash := PyData.keyHash P (Str.ofString "name"), key := Value.str (Str.ofString "name") 208, val := Value.str (Str.ofString "_sre") 207 },
          { hash := PyData.keyHash P (Str.ofString "loader"), key := Value.str (Str.ofString "loader") 209, val := Value.ref 14 },
          { hash := PyData.keyHash P (Str.ofString "origin"), key := Value.str (Str.ofString "origin") 210, val := Value.str (Str.ofString "built-in") 184 },
          { hash := PyData.keyHash P (Str.ofString "loader_state"), key := Value.str (Str.ofString "loader_state") 211, val := Value.none },
          { hash := PyData.keyHash P (Str.ofString "submodule_search_locations"), key := Value.str (Str.ofString "submodule_search_locations") 212, val := Value.none },
          { hash := PyData.keyHash P (Str.ofString "_uninitialized_submodules"), key := Value.str (Str.ofString "_uninitialized_submodules") 213, val := Value.ref 19 },
          { hash := PyData.keyHash P (Str.ofString "_set_fileattr"), key := Value.str (Str.ofString "_set_fileattr") 214, val := Value.bool false },
          { hash := PyData.keyHash P (Str.ofString "_cached"), key := Value.str (Str.ofString "_cached") 215, val := Value.none },
          { hash := PyData.keyHash P (Str.ofString "_initializing"), key := Value.str (Str.ofString "_initializing") 243, val := Value.bool false }]
        9 }
noncomputable def ho62 : Params → Obj := fun P =>
  { cls := Value.type "dict",
    data :=
      Data.dict
        #[{ hash := PyData.keyHash P (Str.ofString "__module__"), key := Value.str (Str.ofString "__module__") 227, val := Value.str (Str.ofString "_frozen_importlib") 217 },
          { hash := PyData.keyHash P (Str.ofString "__firstlineno__"), key := Value.str (Str.ofString "__firstlineno__") 228, val := Value.int 562 218 },
          { hash := PyData.keyHash P (Str.ofString "__doc__"), key := Value.str (Str.ofString "__doc__") 229, val := Value.builtin "_frozen_importlib.ModuleSpec.__doc__:str#opaque" },
          { hash := PyData.keyHash P (Str.ofString "__init__"), key := Value.str (Str.ofString "__init__") 230, val := Value.builtin "_frozen_importlib.ModuleSpec.__init__#opaque" },
          { hash := PyData.keyHash P (Str.ofString "__repr__"), key := Value.str (Str.ofString "__repr__") 231, val := Value.builtin "_frozen_importlib.ModuleSpec.__repr__#opaque" },
          { hash := PyData.keyHash P (Str.ofString "__eq__"), key := Value.str (Str.ofString "__eq__") 232, val := Value.builtin "_frozen_importlib.ModuleSpec.__eq__#opaque" },
          { hash := PyData.keyHash P (Str.ofString "cached"), key := Value.str (Str.ofString "cached") 233, val := Value.builtin "_frozen_importlib.ModuleSpec.cached#opaque" },
          { hash := PyData.keyHash P (Str.ofString "parent"), key := Value.str (Str.ofString "parent") 234, val := Value.builtin "_frozen_importlib.ModuleSpec.parent#opaque" },
          { hash := PyData.keyHash P (Str.ofString "has_location"), key := Value.str (Str.ofString "has_location") 235, val := Value.builtin "_frozen_importlib.ModuleSpec.has_location#opaque" },
          { hash := PyData.keyHash P (Str.ofString "__static_attributes__"), key := Value.str (Str.ofString "__static_attributes__") 236, val := Value.ref 23 },
          { hash := PyData.keyHash P (Str.ofString "__dict__"), key := Value.str (Str.ofString "__dict__") 238, val := Value.ref 24 },
          { hash := PyData.keyHash P (Str.ofString "__weakref__"), key := Value.str (Str.ofString "__weakref__") 240, val := Value.ref 25 },
          { hash := PyData.keyHash P (Str.ofString "__hash__"), key := Value.str (Str.ofString "__hash__") 241, val := Value.none }]
        13 }
noncomputable def ho63 : Params → Obj := fun P => { cls := Value.type "type", data := Data.cls { name := Str.ofString "ModuleSpec", bases := [Value.type "object"], mro := [Value.ref 22, Value.type "object"], ns := 21, qualname := Str.ofString "ModuleSpec" } }
noncomputable def ho64 : Params → Obj := fun P =>
  { cls := Value.type "tuple",
    data :=
      Data.seq
        #[Value.str (Str.ofString "_cached") 219, Value.str (Str.ofString "_set_fileattr") 220, Value.str (Str.ofString "_uninitialized_submodules") 221, Value.str (Str.ofString "loader") 222,
          Value.str (Str.ofString "loader_state") 223, Value.str (Str.ofString "name") 224, Value.str (Str.ofString "origin") 225, Value.str (Str.ofString "submodule_search_locations") 226] }
noncomputable def ho65 : Params → Obj := fun P => { cls := Value.type "getset_descriptor", data := Data.fields #[Value.str (Str.ofString "__dict__") 237, Value.ref 22, Value.builtin "function.__dict__", Value.builtin "function.__dict__#set"] }
noncomputable def ho66 : Params → Obj := fun P => { cls := Value.type "getset_descriptor", data := Data.fields #[Value.str (Str.ofString "__weakref__") 239, Value.ref 22, Value.builtin "ExceptionGroup.__weakref__", Value.none] }
noncomputable def ho67 : Params → Obj := fun P => { cls := Value.ref 22, dict := some 20 }
noncomputable def ho68 : Params → Obj := fun P =>
  { cls := Value.none,
    data :=
      Data.seq
        #[Value.int 11 0,
          Value.str
            {
              cps :=
                #[6, 247, 8, 95, 95, 110, 97, 109, 101, 95, 95, 6, 246, 4, 95, 115, 114, 101, 6, 248, 7, 95, 95, 100, 111, 99, 95, 95, 0, 6, 250, 11, 95, 95, 112, 97, 99, 107, 97, 103, 101, 95, 95, 6, 249, 0, 6, 251, 10, 95, 95,
                  108, 111, 97, 100, 101, 114, 95, 95, 4, 0, 0, 14, 6, 252, 8, 95, 95, 115, 112, 101, 99, 95, 95, 4, 0, 0, 26, 6, 253, 7, 99, 111, 109, 112, 105, 108, 101, 9, 12, 95, 115, 114, 101, 46, 99, 111, 109, 112, 105, 108,
                  101, 6, 254, 8, 116, 101, 109, 112, 108, 97, 116, 101, 9, 13, 95, 115, 114, 101, 46, 116, 101, 109, 112, 108, 97, 116, 101, 6, 255, 11, 103, 101, 116, 99, 111, 100, 101, 115, 105, 122, 101, 9, 16, 95, 115, 114,
                  101, 46, 103, 101, 116, 99, 111, 100, 101, 115, 105, 122, 101, 6, 256, 13, 97, 115, 99, 105, 105, 95, 105, 115, 99, 97, 115, 101, 100, 9, 18, 95, 115, 114, 101, 46, 97, 115, 99, 105, 105, 95, 105, 115, 99, 97,
                  115, 101, 100, 6, 257, 15, 117, 110, 105, 99, 111, 100, 101, 95, 105, 115, 99, 97, 115, 101, 100, 9, 20, 95, 115, 114, 101, 46, 117, 110, 105, 99, 111, 100, 101, 95, 105, 115, 99, 97, 115, 101, 100, 6, 258, 13,
                  97, 115, 99, 105, 105, 95, 116, 111, 108, 111, 119, 101, 114, 9, 18, 95, 115, 114, 101, 46, 97, 115, 99, 105, 105, 95, 116, 111, 108, 111, 119, 101, 114, 6, 259, 15, 117, 110, 105, 99, 111, 100, 101, 95, 116,
                  111, 108, 111, 119, 101, 114, 9, 20, 95, 115, 114, 101, 46, 117, 110, 105, 99, 111, 100, 101, 95, 116, 111, 108, 111, 119, 101, 114, 6, 261, 5, 77, 65, 71, 73, 67, 4, 260, 0, 20230612, 6, 263, 8, 67, 79, 68, 69,
                  83, 73, 90, 69, 4, 262, 0, 4, 6, 265, 9, 77, 65, 88, 82, 69, 80, 69, 65, 84, 4, 264, 0, 4294967295, 6, 267, 9, 77, 65, 88, 71, 82, 79, 85, 80, 83, 4, 266, 0, 1073741823, 6, 269, 9, 99, 111, 112, 121, 114, 105,
                  103, 104, 116, 6, 268, 53, 32, 83, 82, 69, 32, 50, 46, 50, 46, 50, 32, 67, 111, 112, 121, 114, 105, 103, 104, 116, 32, 40, 99, 41, 32, 49, 57, 57, 55, 45, 50, 48, 48, 50, 32, 98, 121, 32, 83, 101, 99, 114, 101,
                  116, 32, 76, 97, 98, 115, 32, 65, 66, 32] }
            0,
          Value.bool true, Value.bool false, Value.str (Str.ofString "_sre") 271] }
noncomputable def ho69 : Params → Obj := fun P => { cls := Value.type "tuple", data := Data.seq #[] }
noncomputable def ho70 : Params → Obj := fun P => { cls := Value.none, data := Data.fields #[] }
noncomputable def ho71 : Params → Obj := fun P =>
  { cls := Value.type "code",
    data :=
      Data.fields
        #[Value.str (Str.ofString "<module>") 277, Value.str (Str.ofString "<module>") 278, Value.str (Str.ofString "/claim/cut.py") 279, Value.int 1 0, Value.int 0 0, Value.int 0 0, Value.int 0 0, Value.int 0 0, Value.ref 28,
          Value.bool false, Value.int 276 0, Value.ref 29, Value.none, Value.none, Value.none, Value.none, Value.int 280 0, Value.int 1 0, Value.str (Str.ofString "/claim/cut.py") 281] }
noncomputable def ho72 : Params → Obj := fun P => { cls := Value.type "frame", slots := #[some (Value.ref 30), some (Value.ref 3), some (Value.ref 3), none, some (Value.str (Str.ofString "__main__") 164), none, some (Value.ref 0)] }
noncomputable def ho73 : Params → Obj := fun P =>
  { cls := Value.type "dict",
    data :=
      Data.dict
        #[{ hash := PyData.keyHash P (Str.ofString "__name__"), key := Value.str (Str.ofString "__name__") 165, val := Value.str (Str.ofString "cpy313.base64") 323 },
          { hash := PyData.keyHash P (Str.ofString "__doc__"), key := Value.str (Str.ofString "__doc__") 166, val := Value.none },
          { hash := PyData.keyHash P (Str.ofString "__package__"), key := Value.str (Str.ofString "__package__") 167, val := Value.none },
          { hash := PyData.keyHash P (Str.ofString "__loader__"), key := Value.str (Str.ofString "__loader__") 168, val := Value.builtin "__main__.__loader__#opaque" },
          { hash := PyData.keyHash P (Str.ofString "__spec__"), key := Value.str (Str.ofString "__spec__") 169, val := Value.none },
          { hash := PyData.keyHash P (Str.ofString "__annotations__"), key := Value.str (Str.ofString "__annotations__") 170, val := Value.ref 6 },
          { hash := PyData.keyHash P (Str.ofString "__builtins__"), key := Value.str (Str.ofString "__builtins__") 171, val := Value.ref 4 },
          { hash := PyData.keyHash P (Str.ofString "__file__"), key := Value.str (Str.ofString "__file__") 173, val := Value.str (Str.ofString "/claim/cut.py") 172 },
          { hash := PyData.keyHash P (Str.ofString "__cached__"), key := Value.str (Str.ofString "__cached__") 174, val := Value.none },
          { hash := PyData.keyHash P (Str.ofString "_sre"), key := Value.str (Str.ofString "_sre") 275, val := Value.ref 12 },
          { hash := PyData.keyHash P (Str.ofString "_wall"), key := Value.str (Str.ofString "_wall") 288, val := Value.ref 38 },
          { hash := PyData.keyHash P (Str.ofString "_buffer"), key := Value.str (Str.ofString "_buffer") 298, val := Value.ref 45 },
          { hash := PyData.keyHash P (Str.ofString "_truth"), key := Value.str (Str.ofString "_truth") 306, val := Value.ref 52 },
          { hash := PyData.keyHash P (Str.ofString "_B64"), key := Value.str (Str.ofString "_B64") 308,
            val :=
              Value.bytes
                #[65, 66, 67, 68, 69, 70, 71, 72, 73, 74, 75, 76, 77, 78, 79, 80, 81, 82, 83, 84, 85, 86, 87, 88, 89, 90, 97, 98, 99, 100, 101, 102, 103, 104, 105, 106, 107, 108, 109, 110, 111, 112, 113, 114, 115, 116, 117, 118,
                  119, 120, 121, 122, 48, 49, 50, 51, 52, 53, 54, 55, 56, 57, 43, 47]
                307 },
          { hash := PyData.keyHash P (Str.ofString "b2a_base64"), key := Value.str (Str.ofString "b2a_base64") 322, val := Value.ref 60 },
          { hash := PyData.keyHash P (Str.ofString "b64encode"), key := Value.str (Str.ofString "b64encode") 333, val := Value.ref 68 },
          { hash := PyData.keyHash P (Str.ofString "_twin_re_1"), key := Value.str (Str.ofString "_twin_re_1") 368, val := Value.ref 73 }]
        17 }
noncomputable def ho74 : Params → Obj := fun P =>
  { cls := Value.none,
    data :=
      Data.fields
        #[Value.int 2 0, Value.int 0 0, Value.ref 37, Value.int 6 0, Value.int 0 0, Value.ref 44, Value.int 13 0, Value.int 0 0, Value.ref 51, Value.int 19 0, Value.int 0 0, Value.ref 59, Value.int 42 0, Value.int 0 0,
          Value.ref 67] }
noncomputable def ho75 : Params → Obj := fun P => { cls := Value.type "tuple", data := Data.seq #[] }
noncomputable def ho76 : Params → Obj := fun P => { cls := Value.none, data := Data.fields #[] }
noncomputable def ho77 : Params → Obj := fun P => { cls := Value.type "tuple", data := Data.seq #[Value.str (Str.ofString "k") 285] }
noncomputable def ho78 : Params → Obj := fun P => { cls := Value.type "tuple", data := Data.seq #[] }
noncomputable def ho79 : Params → Obj := fun P =>
  { cls := Value.none, data := Data.func { name := Str.ofString "_wall", qualname := Str.ofString "_wall", params := fA0, body := fB0, scope := fS0, globals := 0, closure := [], defaults := Value.none, kwdefaults := Value.none } }
noncomputable def ho80 : Params → Obj := fun P =>
  { cls := Value.type "code",
    data :=
      Data.fields
        #[Value.str (Str.ofString "_wall") 282, Value.str (Str.ofString "_wall") 283, Value.str (Str.ofString "/claim/cut.py") 284, Value.int 2 0, Value.int 1 0, Value.int 0 0, Value.int 0 0, Value.int 3 0, Value.ref 32,
          Value.bool true, Value.int 276 0, Value.ref 33, Value.none, Value.ref 34, Value.ref 35, Value.ref 36, Value.int 286 0, Value.int 2 0, Value.str (Str.ofString "/claim/cut.py") 287] }
noncomputable def ho81 : Params → Obj := fun P =>
  { cls := Value.type "function",
    data :=
      Data.func
        { name := Str.ofString "_wall", qualname := Str.ofString "_wall", params := fA0, body := fB0, scope := fS0, globals := 3, closure := [], defaults := Value.none, kwdefaults := Value.none,
          pyModule := Value.str (Str.ofString "__main__") 164, code := Value.ref 37 } }
noncomputable def ho82 : Params → Obj := fun P => { cls := Value.type "tuple", data := Data.seq #[] }
noncomputable def ho83 : Params → Obj := fun P => { cls := Value.none, data := Data.fields #[] }
noncomputable def ho84 : Params → Obj := fun P => { cls := Value.type "tuple", data := Data.seq #[Value.str (Str.ofString "data") 294, Value.str (Str.ofString "t") 295] }
noncomputable def ho85 : Params → Obj := fun P => { cls := Value.type "tuple", data := Data.seq #[] }
noncomputable def ho86 : Params → Obj := fun P =>
  { cls := Value.none,
    data := Data.func { name := Str.ofString "_buffer", qualname := Str.ofString "_buffer", params := fA1, body := fB1, scope := fS1, globals := 0, closure := [], defaults := Value.none, kwdefaults := Value.none } }
noncomputable def ho87 : Params → Obj := fun P =>
  { cls := Value.type "code",
    data :=
      Data.fields
        #[Value.str (Str.ofString "_buffer") 291, Value.str (Str.ofString "_buffer") 292, Value.str (Str.ofString "/claim/cut.py") 293, Value.int 6 0, Value.int 1 0, Value.int 0 0, Value.int 0 0, Value.int 3 0, Value.ref 39,
          Value.bool true, Value.int 276 0, Value.ref 40, Value.none, Value.ref 41, Value.ref 42, Value.ref 43, Value.int 296 0, Value.int 6 0, Value.str (Str.ofString "/claim/cut.py") 297] }
noncomputable def ho88 : Params → Obj := fun P =>
  { cls := Value.type "function",
    data :=
      Data.func
        { name := Str.ofString "_buffer", qualname := Str.ofString "_buffer", params := fA1, body := fB1, scope := fS1, globals := 3, closure := [], defaults := Value.none, kwdefaults := Value.none,
          pyModule := Value.str (Str.ofString "binascii") 289, code := Value.ref 44 } }
noncomputable def ho89 : Params → Obj := fun P => { cls := Value.type "tuple", data := Data.seq #[] }
noncomputable def ho90 : Params → Obj := fun P => { cls := Value.none, data := Data.fields #[] }
noncomputable def ho91 : Params → Obj := fun P => { cls := Value.type "tuple", data := Data.seq #[Value.str (Str.ofString "x") 302, Value.str (Str.ofString "t") 303] }
noncomputable def ho92 : Params → Obj := fun P => { cls := Value.type "tuple", data := Data.seq #[] }
noncomputable def ho93 : Params → Obj := fun P =>
  { cls := Value.none,
    data := Data.func { name := Str.ofString "_truth", qualname := Str.ofString "_truth", params := fA2, body := fB2, scope := fS2, globals := 0, closure := [], defaults := Value.none, kwdefaults := Value.none } }
noncomputable def ho94 : Params → Obj := fun P =>
  { cls := Value.type "code",
    data :=
      Data.fields
        #[Value.str (Str.ofString "_truth") 299, Value.str (Str.ofString "_truth") 300, Value.str (Str.ofString "/claim/cut.py") 301, Value.int 13 0, Value.int 1 0, Value.int 0 0, Value.int 0 0, Value.int 3 0, Value.ref 46,
          Value.bool true, Value.int 276 0, Value.ref 47, Value.none, Value.ref 48, Value.ref 49, Value.ref 50, Value.int 304 0, Value.int 13 0, Value.str (Str.ofString "/claim/cut.py") 305] }
noncomputable def ho95 : Params → Obj := fun P =>
  { cls := Value.type "function",
    data :=
      Data.func
        { name := Str.ofString "_truth", qualname := Str.ofString "_truth", params := fA2, body := fB2, scope := fS2, globals := 3, closure := [], defaults := Value.none, kwdefaults := Value.none,
          pyModule := Value.str (Str.ofString "binascii") 289, code := Value.ref 51 } }
noncomputable def ho96 : Params → Obj := fun P => { cls := Value.type "dict", data := Data.dict #[{ hash := PyData.keyHash P (Str.ofString "newline"), key := Value.str (Str.ofString "newline") 309, val := Value.bool true }] 1 }
noncomputable def ho97 : Params → Obj := fun P => { cls := Value.type "tuple", data := Data.seq #[] }
noncomputable def ho98 : Params → Obj := fun P => { cls := Value.none, data := Data.fields #[] }
noncomputable def ho99 : Params → Obj := fun P =>
  { cls := Value.type "tuple",
    data :=
      Data.seq
        #[Value.str (Str.ofString "data") 313, Value.str (Str.ofString "newline") 314, Value.str (Str.ofString "bin_data") 315, Value.str (Str.ofString "out") 316, Value.str (Str.ofString "leftbits") 317,
          Value.str (Str.ofString "leftchar") 318, Value.str (Str.ofString "b") 319] }
noncomputable def ho100 : Params → Obj := fun P => { cls := Value.type "tuple", data := Data.seq #[] }
noncomputable def ho101 : Params → Obj := fun P =>
  { cls := Value.none,
    data := Data.func { name := Str.ofString "b2a_base64", qualname := Str.ofString "b2a_base64", params := fA3, body := fB3, scope := fS3, globals := 0, closure := [], defaults := Value.none, kwdefaults := Value.none } }
noncomputable def ho102 : Params → Obj := fun P =>
  { cls := Value.type "code",
    data :=
      Data.fields
        #[Value.str (Str.ofString "b2a_base64") 310, Value.str (Str.ofString "b2a_base64") 311, Value.str (Str.ofString "/claim/cut.py") 312, Value.int 19 0, Value.int 1 0, Value.int 1 0, Value.int 1 0, Value.int 3 0,
          Value.ref 54, Value.bool true, Value.int 276 0, Value.ref 55, Value.none, Value.ref 56, Value.ref 57, Value.ref 58, Value.int 320 0, Value.int 19 0, Value.str (Str.ofString "/claim/cut.py") 321] }
noncomputable def ho103 : Params → Obj := fun P =>
  { cls := Value.type "function",
    data :=
      Data.func
        { name := Str.ofString "b2a_base64", qualname := Str.ofString "b2a_base64", params := fA3, body := fB3, scope := fS3, globals := 3, closure := [], defaults := Value.none, kwdefaults := Value.ref 53,
          pyModule := Value.str (Str.ofString "binascii") 289, code := Value.ref 59 } }
noncomputable def ho104 : Params → Obj := fun P => { cls := Value.type "tuple", data := Data.seq #[Value.none] }
noncomputable def ho105 : Params → Obj := fun P => { cls := Value.type "tuple", data := Data.seq #[] }
noncomputable def ho106 : Params → Obj := fun P => { cls := Value.none, data := Data.fields #[] }
noncomputable def ho107 : Params → Obj := fun P => { cls := Value.type "tuple", data := Data.seq #[Value.str (Str.ofString "s") 328, Value.str (Str.ofString "altchars") 329, Value.str (Str.ofString "encoded") 330] }
noncomputable def ho108 : Params → Obj := fun P => { cls := Value.type "tuple", data := Data.seq #[] }
noncomputable def ho109 : Params → Obj := fun P =>
  { cls := Value.none,
    data := Data.func { name := Str.ofString "b64encode", qualname := Str.ofString "b64encode", params := fA4, body := fB4, scope := fS4, globals := 0, closure := [], defaults := Value.none, kwdefaults := Value.none } }
noncomputable def ho110 : Params → Obj := fun P =>
  { cls := Value.type "code",
    data :=
      Data.fields
        #[Value.str (Str.ofString "b64encode") 325, Value.str (Str.ofString "b64encode") 326, Value.str (Str.ofString "/claim/cut.py") 327, Value.int 42 0, Value.int 2 0, Value.int 0 0, Value.int 0 0, Value.int 3 0, Value.ref 62,
          Value.bool true, Value.int 276 0, Value.ref 63, Value.none, Value.ref 64, Value.ref 65, Value.ref 66, Value.int 331 0, Value.int 42 0, Value.str (Str.ofString "/claim/cut.py") 332] }
noncomputable def ho111 : Params → Obj := fun P =>
  { cls := Value.type "function",
    data :=
      Data.func
        { name := Str.ofString "b64encode", qualname := Str.ofString "b64encode", params := fA4, body := fB4, scope := fS4, globals := 3, closure := [], defaults := Value.ref 61, kwdefaults := Value.none,
          pyModule := Value.str (Str.ofString "cpy313.base64") 323, code := Value.ref 67 } }
noncomputable def ho112 : Params → Obj := fun P =>
  { cls := Value.type "list",
    data :=
      Data.seq
        #[Value.int 14 337, Value.int 8 338, Value.int 1 339, Value.int 3 340, Value.int 3 341, Value.int 1 342, Value.int 1 343, Value.int 61 344, Value.int 0 345, Value.int 16 346, Value.int 61 347, Value.int 24 348,
          Value.int 16 349, Value.int 2 350, Value.int 2 351, Value.int 13 352, Value.int 11 353, Value.int 9 354, Value.int 0 355, Value.int 67043328 356, Value.int 126 357, Value.int 126 358, Value.int 0 359, Value.int 0 360,
          Value.int 0 361, Value.int 0 362, Value.int 0 363, Value.int 1 364, Value.int 1 365] }
noncomputable def ho113 : Params → Obj := fun P => { cls := Value.type "dict", data := Data.dict #[] }
noncomputable def ho114 : Params → Obj := fun P => { cls := Value.type "tuple", data := Data.seq #[Value.none] }
noncomputable def ho115 : Params → Obj := fun P =>
  { cls := Value.type "tuple",
    data :=
      Data.seq
        #[Value.int 14 0, Value.int 8 0, Value.int 1 0, Value.int 3 0, Value.int 3 0, Value.int 1 0, Value.int 1 0, Value.int 61 0, Value.int 0 0, Value.int 16 0, Value.int 61 0, Value.int 24 0, Value.int 16 0, Value.int 2 0,
          Value.int 2 0, Value.int 13 0, Value.int 11 0, Value.int 9 0, Value.int 0 0, Value.int 67043328 0, Value.int 126 0, Value.int 126 0, Value.int 0 0, Value.int 0 0, Value.int 0 0, Value.int 0 0, Value.int 0 0,
          Value.int 1 0, Value.int 1 0] }
noncomputable def ho116 : Params → Obj := fun P => { cls := Value.type "re.Pattern", data := Data.fields #[Value.str (Str.ofString "=[a-fA-F0-9]{2}") 335, Value.int 256 367, Value.int 0 0, Value.none, Value.none, Value.ref 72, Value.int 0 0] }
noncomputable def ho117 : Params → Obj := fun P =>
  { cls := Value.type "dict",
    data :=
      Data.dict
        #[{ hash := PyData.keyHash P (Str.ofString "__name__"), key := Value.str (Str.ofString "__name__") 165, val := Value.str (Str.ofString "cpy313.base64") 323 },
          { hash := PyData.keyHash P (Str.ofString "__doc__"), key := Value.str (Str.ofString "__doc__") 166, val := Value.none },
          { hash := PyData.keyHash P (Str.ofString "__package__"), key := Value.str (Str.ofString "__package__") 167, val := Value.none },
          { hash := PyData.keyHash P (Str.ofString "__loader__"), key := Value.str (Str.ofString "__loader__") 168, val := Value.builtin "__main__.__loader__#opaque" },
          { hash := PyData.keyHash P (Str.ofString "__spec__"), key := Value.str (Str.ofString "__spec__") 169, val := Value.none },
          { hash := PyData.keyHash P (Str.ofString "__annotations__"), key := Value.str (Str.ofString "__annotations__") 170, val := Value.ref 6 },
          { hash := PyData.keyHash P (Str.ofString "__builtins__"), key := Value.str (Str.ofString "__builtins__") 171, val := Value.ref 4 },
          { hash := PyData.keyHash P (Str.ofString "__file__"), key := Value.str (Str.ofString "__file__") 173, val := Value.str (Str.ofString "/claim/cut.py") 172 },
          { hash := PyData.keyHash P (Str.ofString "__cached__"), key := Value.str (Str.ofString "__cached__") 174, val := Value.none },
          { hash := PyData.keyHash P (Str.ofString "_sre"), key := Value.str (Str.ofString "_sre") 275, val := Value.ref 12 },
          { hash := PyData.keyHash P (Str.ofString "_wall"), key := Value.str (Str.ofString "_wall") 288, val := Value.ref 38 },
          { hash := PyData.keyHash P (Str.ofString "_buffer"), key := Value.str (Str.ofString "_buffer") 298, val := Value.ref 45 },
          { hash := PyData.keyHash P (Str.ofString "_truth"), key := Value.str (Str.ofString "_truth") 306, val := Value.ref 52 },
          { hash := PyData.keyHash P (Str.ofString "_B64"), key := Value.str (Str.ofString "_B64") 308,
            val :=
              Value.bytes
                #[65, 66, 67, 68, 69, 70, 71, 72, 73, 74, 75, 76, 77, 78, 79, 80, 81, 82, 83, 84, 85, 86, 87, 88, 89, 90, 97, 98, 99, 100, 101, 102, 103, 104, 105, 106, 107, 108, 109, 110, 111, 112, 113, 114, 115, 116, 117, 118,
                  119, 120, 121, 122, 48, 49, 50, 51, 52, 53, 54, 55, 56, 57, 43, 47]
                307 },
          { hash := PyData.keyHash P (Str.ofString "b2a_base64"), key := Value.str (Str.ofString "b2a_base64") 322, val := Value.ref 60 },
          { hash := PyData.keyHash P (Str.ofString "b64encode"), key := Value.str (Str.ofString "b64encode") 333, val := Value.ref 68 },
          { hash := PyData.keyHash P (Str.ofString "_twin_re_1"), key := Value.str (Str.ofString "_twin_re_1") 368, val := Value.ref 73 },
          { hash := PyData.keyHash P (Str.ofString "_QUOPRI_MAP"), key := Value.str (Str.ofString "_QUOPRI_MAP") 1396, val := Value.ref 76 }]
        18 }
noncomputable def ho118 : Params → Obj := fun P => { cls := Value.type "range", data := Data.fields #[Value.int 0 370, Value.int 256 369, Value.int 1 371] }
noncomputable def ho119 : Params → Obj := fun P => { cls := Value.type "range_iterator", data := Data.fields #[Value.int 256 0, Value.int 0 0, Value.int 1 0] }
noncomputable def ho120 : Params → Obj := fun P =>
  { cls := Value.type "list",
    data :=
      Data.seq
        #[Value.str (Str.ofString "=00") 375, Value.str (Str.ofString "=01") 379, Value.str (Str.ofString "=02") 383, Value.str (Str.ofString "=03") 387, Value.str (Str.ofString "=04") 391, Value.str (Str.ofString "=05") 395,
          Value.str (Str.ofString "=06") 399, Value.str (Str.ofString "=07") 403, Value.str (Str.ofString "=08") 407, Value.str (Str.ofString "=09") 411, Value.str (Str.ofString "=0A") 415, Value.str (Str.ofString "=0B") 419,
          Value.str (Str.ofString "=0C") 423, Value.str (Str.ofString "=0D") 427, Value.str (Str.ofString "=0E") 431, Value.str (Str.ofString "=0F") 435, Value.str (Str.ofString "=10") 439, Value.str (Str.ofString "=11") 443,
          Value.str (Str.ofString "=12") 447, Value.str (Str.ofString "=13") 451, Value.str (Str.ofString "=14") 455, Value.str (Str.ofString "=15") 459, Value.str (Str.ofString "=16") 463, Value.str (Str.ofString "=17") 467,
          Value.str (Str.ofString "=18") 471, Value.str (Str.ofString "=19") 475, Value.str (Str.ofString "=1A") 479, Value.str (Str.ofString "=1B") 483, Value.str (Str.ofString "=1C") 487, Value.str (Str.ofString "=1D") 491,
          Value.str (Str.ofString "=1E") 495, Value.str (Str.ofString "=1F") 499, Value.str (Str.ofString "=20") 503, Value.str (Str.ofString "=21") 507, Value.str (Str.ofString "=22") 511, Value.str (Str.ofString "=23") 515,
          Value.str (Str.ofString "=24") 519, Value.str (Str.ofString "=25") 523, Value.str (Str.ofString "=26") 527, Value.str (Str.ofString "=27") 531, Value.str (Str.ofString "=28") 535, Value.str (Str.ofString "=29") 539,
          Value.str (Str.ofString "=2A") 543, Value.str (Str.ofString "=2B") 547, Value.str (Str.ofString "=2C") 551, Value.str (Str.ofString "=2D") 555, Value.str (Str.ofString "=2E") 559, Value.str (Str.ofString "=2F") 563,
          Value.str (Str.ofString "=30") 567, Value.str (Str.ofString "=31") 571, Value.str (Str.ofString "=32") 575, Value.str (Str.ofString "=33") 579, Value.str (Str.ofString "=34") 583, Value.str (Str.ofString "=35") 587,
          Value.str (Str.ofString "=36") 591, Value.str (Str.ofString "=37") 595, Value.str (Str.ofString "=38") 599, Value.str (Str.ofString "=39") 603, Value.str (Str.ofString "=3A") 607, Value.str (Str.ofString "=3B") 611,
          Value.str (Str.ofString "=3C") 615, Value.str (Str.ofString "=3D") 619, Value.str (Str.ofString "=3E") 623, Value.str (Str.ofString "=3F") 627, Value.str (Str.ofString "=40") 631, Value.str (Str.ofString "=41") 635,
          Value.str (Str.ofString "=42") 639, Value.str (Str.ofString "=43") 643, Value.str (Str.ofString "=44") 647, Value.str (Str.ofString "=45") 651, Value.str (Str.ofString "=46") 655, Value.str (Str.ofString "=47") 659,
          Value.str (Str.ofString "=48") 663, Value.str (Str.ofString "=49") 667, Value.str (Str.ofString "=4A") 671, Value.str (Str.ofString "=4B") 675, Value.str (Str.ofString "=4C") 679, Value.str (Str.ofString "=4D") 683,
          Value.str (Str.ofString "=4E") 687, Value.str (Str.ofString "=4F") 691, Value.str (Str.ofString "=50") 695, Value.str (Str.ofString "=51") 699, Value.str (Str.ofString "=52") 703, Value.str (Str.ofString "=53") 707,
          Value.str (Str.ofString "=54") 711, Value.str (Str.ofString "=55") 715, Value.str (Str.ofString "=56") 719, Value.str (Str.ofString "=57") 723, Value.str (Str.ofString "=58") 727, Value.str (Str.ofString "=59") 731,
          Value.str (Str.ofString "=5A") 735, Value.str (Str.ofString "=5B") 739, Value.str (Str.ofString "=5C") 743, Value.str (Str.ofString "=5D") 747, Value.str (Str.ofString "=5E") 751, Value.str (Str.ofString "=5F") 755,
          Value.str (Str.ofString "=60") 759, Value.str (Str.ofString "=61") 763, Value.str (Str.ofString "=62") 767, Value.str (Str.ofString "=63") 771, Value.str (Str.ofString "=64") 775, Value.str (Str.ofString "=65") 779,
          Value.str (Str.ofString "=66") 783, Value.str (Str.ofString "=67") 787, Value.str (Str.ofString "=68") 791, Value.str (Str.ofString "=69") 795, Value.str (Str.ofString "=6A") 799, Value.str (Str.ofString "=6B") 803,
          Value.str (Str.ofString "=6C") 807, Value.str (Str.ofString "=6D") 811, Value.str (Str.ofString "=6E") 815, Value.str (Str.ofString "=6F") 819, Value.str (Str.ofString "=70") 823, Value.str (Str.ofString "=71") 827,
          Value.str (Str.ofString "=72") 831, Value.str (Str.ofString "=73") 835, Value.str (Str.ofString "=74") 839, Value.str (Str.ofString "=75") 843, Value.str (Str.ofString "=76") 847, Value.str (Str.ofString "=77") 851,
          Value.str (Str.ofString "=78") 855, Value.str (Str.ofString "=79") 859, Value.str (Str.ofString "=7A") 863, Value.str (Str.ofString "=7B") 867, Value.str (Str.ofString "=7C") 871, Value.str (Str.ofString "=7D") 875,
          Value.str (Str.ofString "=7E") 879, Value.str (Str.ofString "=7F") 883, Value.str (Str.ofString "=80") 887, Value.str (Str.ofString "=81") 891, Value.str (Str.ofString "=82") 895, Value.str (Str.ofString "=83") 899,
          Value.str (Str.ofString "=84") 903, Value.str (Str.ofString "=85") 907, Value.str (Str.ofString "=86") 911, Value.str (Str.ofString "=87") 915, Value.str (Str.ofString "=88") 919, Value.str (Str.ofString "=89") 923,
          Value.str (Str.ofString "=8A") 927, Value.str (Str.ofString "=8B") 931, Value.str (Str.ofString "=8C") 935, Value.str (Str.ofString "=8D") 939, Value.str (Str.ofString "=8E") 943, Value.str (Str.ofString "=8F") 947,
          Value.str (Str.ofString "=90") 951, Value.str (Str.ofString "=91") 955, Value.str (Str.ofString "=92") 959, Value.str (Str.ofString "=93") 963, Value.str (Str.ofString "=94") 967, Value.str (Str.ofString "=95") 971,
          Value.str (Str.ofString "=96") 975, Value.str (Str.ofString "=97") 979, Value.str (Str.ofString "=98") 983, Value.str (Str.ofString "=99") 987, Value.str (Str.ofString "=9A") 991, Value.str (Str.ofString "=9B") 995,
          Value.str (Str.ofString "=9C") 999, Value.str (Str.ofString "=9D") 1003, Value.str (Str.ofString "=9E") 1007, Value.str (Str.ofString "=9F") 1011, Value.str (Str.ofString "=A0") 1015, Value.str (Str.ofString "=A1") 1019,
          Value.str (Str.ofString "=A2") 1023, Value.str (Str.ofString "=A3") 1027, Value.str (Str.ofString "=A4") 1031, Value.str (Str.ofString "=A5") 1035, Value.str (Str.ofString "=A6") 1039,
          Value.str (Str.ofString "=A7") 1043, Value.str (Str.ofString "=A8") 1047, Value.str (Str.ofString "=A9") 1051, Value.str (Str.ofString "=AA") 1055, Value.str (Str.ofString "=AB") 1059,
          Value.str (Str.ofString "=AC") 1063, Value.str (Str.ofString "=AD") 1067, Value.str (Str.ofString "=AE") 1071, Value.str (Str.ofString "=AF") 1075, Value.str (Str.ofString "=B0") 1079,
          Value.str (Str.ofString "=B1") 1083, Value.str (Str.ofString "=B2") 1087, Value.str (Str.ofString "=B3") 1091, Value.str (Str.ofString "=B4") 1095, Value.str (Str.ofString "=B5") 1099,
          Value.str (Str.ofString "=B6") 1103, Value.str (Str.ofString "=B7") 1107, Value.str (Str.ofString "=B8") 1111, Value.str (Str.ofString "=B9") 1115, Value.str (Str.ofString "=BA") 1119,
          Value.str (Str.ofString "=BB") 1123, Value.str (Str.ofString "=BC") 1127, Value.str (Str.ofString "=BD") 1131, Value.str (Str.ofString "=BE") 1135, Value.str (Str.ofString "=BF") 1139,
          Value.str (Str.ofString "=C0") 1143, Value.str (Str.ofString "=C1") 1147, Value.str (Str.ofString "=C2") 1151, Value.str (Str.ofString "=C3") 1155, Value.str (Str.ofString "=C4") 1159,
          Value.str (Str.ofString "=C5") 1163, Value.str (Str.ofString "=C6") 1167, Value.str (Str.ofString "=C7") 1171, Value.str (Str.ofString "=C8") 1175, Value.str (Str.ofString "=C9") 1179,
          Value.str (Str.ofString "=CA") 1183, Value.str (Str.ofString "=CB") 1187, Value.str (Str.ofString "=CC") 1191, Value.str (Str.ofString "=CD") 1195, Value.str (Str.ofString "=CE") 1199,
          Value.str (Str.ofString "=CF") 1203, Value.str (Str.ofString "=D0") 1207, Value.str (Str.ofString "=D1") 1211, Value.str (Str.ofString "=D2") 1215, Value.str (Str.ofString "=D3") 1219,
          Value.str (Str.ofString "=D4") 1223, Value.str (Str.ofString "=D5") 1227, Value.str (Str.ofString "=D6") 1231, Value.str (Str.ofString "=D7") 1235, Value.str (Str.ofString "=D8") 1239,
          Value.str (Str.ofString "=D9") 1243, Value.str (Str.ofString "=DA") 1247, Value.str (Str.ofString "=DB") 1251, Value.str (Str.ofString "=DC") 1255, Value.str (Str.ofString "=DD") 1259,
          Value.str (Str.ofString "=DE") 1263, Value.str (Str.ofString "=DF") 1267, Value.str (Str.ofString "=E0") 1271, Value.str (Str.ofString "=E1") 1275, Value.str (Str.ofString "=E2") 1279,
          Value.str (Str.ofString "=E3") 1283, Value.str (Str.ofString "=E4") 1287, Value.str (Str.ofString "=E5") 1291, Value.str (Str.ofString "=E6") 1295, Value.str (Str.ofString "=E7") 1299,
          Value.str (Str.ofString "=E8") 1303, Value.str (Str.ofString "=E9") 1307, Value.str (Str.ofString "=EA") 1311, Value.str (Str.ofString "=EB") 1315, Value.str (Str.ofString "=EC") 1319,
          Value.str (Str.ofString "=ED") 1323, Value.str (Str.ofString "=EE") 1327, Value.str (Str.ofString "=EF") 1331, Value.str (Str.ofString "=F0") 1335, Value.str (Str.ofString "=F1") 1339,
          Value.str (Str.ofString "=F2") 1343, Value.str (Str.ofString "=F3") 1347, Value.str (Str.ofString "=F4") 1351, Value.str (Str.ofString "=F5") 1355, Value.str (Str.ofString "=F6") 1359,
          Value.str (Str.ofString "=F7") 1363, Value.str (Str.ofString "=F8") 1367, Value.str (Str.ofString "=F9") 1371, Value.str (Str.ofString "=FA") 1375, Value.str (Str.ofString "=FB") 1379,
          Value.str (Str.ofString "=FC") 1383, Value.str (Str.ofString "=FD") 1387, Value.str (Str.ofString "=FE") 1391, Value.str (Str.ofString "=FF") 1395]
        256 }
noncomputable def ho121 : Params → Obj := fun P => { cls := Value.type "dict", data := Data.dict #[] 2 }
noncomputable def ho122 : Params → Obj := fun P => { cls := Value.type "tuple", data := Data.seq #[] }
noncomputable def ho123 : Params → Obj := fun P => { cls := Value.type "StopIteration", data := Data.fields #[Value.ref 78, Value.none, Value.none, Value.none, Value.bool false, Value.none] }
noncomputable def ho126 : Params → Obj := fun P =>
  { cls := Value.type "dict",
    data :=
      Data.dict
        #[{ hash := PyData.keyHash P (Str.ofString "__name__"), key := Value.str (Str.ofString "__name__") 165, val := Value.str (Str.ofString "cpy313.email.quoprimime") 1407 },
          { hash := PyData.keyHash P (Str.ofString "__doc__"), key := Value.str (Str.ofString "__doc__") 166, val := Value.none },
          { hash := PyData.keyHash P (Str.ofString "__package__"), key := Value.str (Str.ofString "__package__") 167, val := Value.none },
          { hash := PyData.keyHash P (Str.ofString "__loader__"), key := Value.str (Str.ofString "__loader__") 168, val := Value.builtin "__main__.__loader__#opaque" },
          { hash := PyData.keyHash P (Str.ofString "__spec__"), key := Value.str (Str.ofString "__spec__") 169, val := Value.none },
          { hash := PyData.keyHash P (Str.ofString "__annotations__"), key := Value.str (Str.ofString "__annotations__") 170, val := Value.ref 6 },
          { hash := PyData.keyHash P (Str.ofString "__builtins__"), key := Value.str (Str.ofString "__builtins__") 171, val := Value.ref 4 },
          { hash := PyData.keyHash P (Str.ofString "__file__"), key := Value.str (Str.ofString "__file__") 173, val := Value.str (Str.ofString "/claim/cut.py") 172 },
          { hash := PyData.keyHash P (Str.ofString "__cached__"), key := Value.str (Str.ofString "__cached__") 174, val := Value.none },
          { hash := PyData.keyHash P (Str.ofString "_sre"), key := Value.str (Str.ofString "_sre") 275, val := Value.ref 12 },
          { hash := PyData.keyHash P (Str.ofString "_wall"), key := Value.str (Str.ofString "_wall") 288, val := Value.ref 38 },
          { hash := PyData.keyHash P (Str.ofString "_buffer"), key := Value.str (Str.ofString "_buffer") 298, val := Value.ref 45 },
          { hash := PyData.keyHash P (Str.ofString "_truth"), key := Value.str (Str.ofString "_truth") 306, val := Value.ref 52 },
          { hash := PyData.keyHash P (Str.ofString "_B64"), key := Value.str (Str.ofString "_B64") 308,
            val :=
              Value.bytes
                #[65, 66, 67, 68, 69, 70, 71, 72, 73, 74, 75, 76, 77, 78, 79, 80, 81, 82, 83, 84, 85, 86, 87, 88, 89, 90, 97, 98, 99, 100, 101, 102, 103, 104, 105, 106, 107, 108, 109, 110, 111, 112, 113, 114, 115, 116, 117, 118,
                  119, 120, 121, 122, 48, 49, 50, 51, 52, 53, 54, 55, 56, 57, 43, 47]
                307 },
          { hash := PyData.keyHash P (Str.ofString "b2a_base64"), key := Value.str (Str.ofString "b2a_base64") 322, val := Value.ref 60 },
          { hash := PyData.keyHash P (Str.ofString "b64encode"), key := Value.str (Str.ofString "b64encode") 333, val := Value.ref 68 },
          { hash := PyData.keyHash P (Str.ofString "_twin_re_1"), key := Value.str (Str.ofString "_twin_re_1") 368, val := Value.ref 73 },
          { hash := PyData.keyHash P (Str.ofString "_QUOPRI_MAP"), key := Value.str (Str.ofString "_QUOPRI_MAP") 1396, val := Value.ref 76 },
          { hash := PyData.keyHash P (Str.ofString "_QUOPRI_HEADER_MAP"), key := Value.str (Str.ofString "_QUOPRI_HEADER_MAP") 1397, val := Value.ref 81 },
          { hash := PyData.keyHash P (Str.ofString "_QUOPRI_BODY_MAP"), key := Value.str (Str.ofString "_QUOPRI_BODY_MAP") 1398, val := Value.ref 83 },
          { hash := PyData.keyHash P (Str.ofString "ascii_lowercase"), key := Value.str (Str.ofString "ascii_lowercase") 1400, val := Value.str (Str.ofString "abcdefghijklmnopqrstuvwxyz") 1399 },
          { hash := PyData.keyHash P (Str.ofString "ascii_uppercase"), key := Value.str (Str.ofString "ascii_uppercase") 1402, val := Value.str (Str.ofString "ABCDEFGHIJKLMNOPQRSTUVWXYZ") 1401 },
          { hash := PyData.keyHash P (Str.ofString "ascii_letters"), key := Value.str (Str.ofString "ascii_letters") 1404, val := Value.str (Str.ofString "abcdefghijklmnopqrstuvwxyzABCDEFGHIJKLMNOPQRSTUVWXYZ") 1403 },
          { hash := PyData.keyHash P (Str.ofString "digits"), key := Value.str (Str.ofString "digits") 1406, val := Value.str (Str.ofString "0123456789") 1405 },
          { hash := PyData.keyHash P (Str.ofString "c"), key := Value.str (Str.ofString "c") 1417, val := Value.int 57 1614 }]
        25 }
noncomputable def ho127 : Params → Obj := fun P => { cls := Value.type "slice", data := Data.fields #[Value.none, Value.none, Value.none] }
noncomputable def ho128 : Params → Obj := fun P =>
  { cls := Value.type "list",
    data :=
      Data.seq
        #[Value.str (Str.ofString "=00") 375, Value.str (Str.ofString "=01") 379, Value.str (Str.ofString "=02") 383, Value.str (Str.ofString "=03") 387, Value.str (Str.ofString "=04") 391, Value.str (Str.ofString "=05") 395,
          Value.str (Str.ofString "=06") 399, Value.str (Str.ofString "=07") 403, Value.str (Str.ofString "=08") 407, Value.str (Str.ofString "=09") 411, Value.str (Str.ofString "=0A") 415, Value.str (Str.ofString "=0B") 419,
          Value.str (Str.ofString "=0C") 423, Value.str (Str.ofString "=0D") 427, Value.str (Str.ofString "=0E") 431, Value.str (Str.ofString "=0F") 435, Value.str (Str.ofString "=10") 439, Value.str (Str.ofString "=11") 443,
          Value.str (Str.ofString "=12") 447, Value.str (Str.ofString "=13") 451, Value.str (Str.ofString "=14") 455, Value.str (Str.ofString "=15") 459, Value.str (Str.ofString "=16") 463, Value.str (Str.ofString "=17") 467,
          Value.str (Str.ofString "=18") 471, Value.str (Str.ofString "=19") 475, Value.str (Str.ofString "=1A") 479, Value.str (Str.ofString "=1B") 483, Value.str (Str.ofString "=1C") 487, Value.str (Str.ofString "=1D") 491,
          Value.str (Str.ofString "=1E") 495, Value.str (Str.ofString "=1F") 499, Value.str (Str.ofString "_") 1617, Value.str (Str.ofString "!") 1421, Value.str (Str.ofString "=22") 511, Value.str (Str.ofString "=23") 515,
          Value.str (Str.ofString "=24") 519, Value.str (Str.ofString "=25") 523, Value.str (Str.ofString "=26") 527, Value.str (Str.ofString "=27") 531, Value.str (Str.ofString "=28") 535, Value.str (Str.ofString "=29") 539,
          Value.str (Str.ofString "*") 1424, Value.str (Str.ofString "+") 1427, Value.str (Str.ofString "=2C") 551, Value.str (Str.ofString "-") 1418, Value.str (Str.ofString "=2E") 559, Value.str (Str.ofString "/") 1430,
          Value.str (Str.ofString "0") 1589, Value.str (Str.ofString "1") 1592, Value.str (Str.ofString "2") 1595, Value.str (Str.ofString "3") 1598, Value.str (Str.ofString "4") 1601, Value.str (Str.ofString "5") 1604,
          Value.str (Str.ofString "6") 1607, Value.str (Str.ofString "7") 1610, Value.str (Str.ofString "8") 1613, Value.str (Str.ofString "9") 1616, Value.str (Str.ofString "=3A") 607, Value.str (Str.ofString "=3B") 611,
          Value.str (Str.ofString "=3C") 615, Value.str (Str.ofString "=3D") 619, Value.str (Str.ofString "=3E") 623, Value.str (Str.ofString "=3F") 627, Value.str (Str.ofString "=40") 631, Value.str (Str.ofString "A") 1511,
          Value.str (Str.ofString "B") 1514, Value.str (Str.ofString "C") 1517, Value.str (Str.ofString "D") 1520, Value.str (Str.ofString "E") 1523, Value.str (Str.ofString "F") 1526, Value.str (Str.ofString "G") 1529,
          Value.str (Str.ofString "H") 1532, Value.str (Str.ofString "I") 1535, Value.str (Str.ofString "J") 1538, Value.str (Str.ofString "K") 1541, Value.str (Str.ofString "L") 1544, Value.str (Str.ofString "M") 1547,
          Value.str (Str.ofString "N") 1550, Value.str (Str.ofString "O") 1553, Value.str (Str.ofString "P") 1556, Value.str (Str.ofString "Q") 1559, Value.str (Str.ofString "R") 1562, Value.str (Str.ofString "S") 1565,
          Value.str (Str.ofString "T") 1568, Value.str (Str.ofString "U") 1571, Value.str (Str.ofString "V") 1574, Value.str (Str.ofString "W") 1577, Value.str (Str.ofString "X") 1580, Value.str (Str.ofString "Y") 1583,
          Value.str (Str.ofString "Z") 1586, Value.str (Str.ofString "=5B") 739, Value.str (Str.ofString "=5C") 743, Value.str (Str.ofString "=5D") 747, Value.str (Str.ofString "=5E") 751, Value.str (Str.ofString "=5F") 755,
          Value.str (Str.ofString "=60") 759, Value.str (Str.ofString "a") 1433, Value.str (Str.ofString "b") 1436, Value.str (Str.ofString "c") 1439, Value.str (Str.ofString "d") 1442, Value.str (Str.ofString "e") 1445,
          Value.str (Str.ofString "f") 1448, Value.str (Str.ofString "g") 1451, Value.str (Str.ofString "h") 1454, Value.str (Str.ofString "i") 1457, Value.str (Str.ofString "j") 1460, Value.str (Str.ofString "k") 1463,
          Value.str (Str.ofString "l") 1466, Value.str (Str.ofString "m") 1469, Value.str (Str.ofString "n") 1472, Value.str (Str.ofString "o") 1475, Value.str (Str.ofString "p") 1478, Value.str (Str.ofString "q") 1481,
          Value.str (Str.ofString "r") 1484, Value.str (Str.ofString "s") 1487, Value.str (Str.ofString "t") 1490, Value.str (Str.ofString "u") 1493, Value.str (Str.ofString "v") 1496, Value.str (Str.ofString "w") 1499,
          Value.str (Str.ofString "x") 1502, Value.str (Str.ofString "y") 1505, Value.str (Str.ofString "z") 1508, Value.str (Str.ofString "=7B") 867, Value.str (Str.ofString "=7C") 871, Value.str (Str.ofString "=7D") 875,
          Value.str (Str.ofString "=7E") 879, Value.str (Str.ofString "=7F") 883, Value.str (Str.ofString "=80") 887, Value.str (Str.ofString "=81") 891, Value.str (Str.ofString "=82") 895, Value.str (Str.ofString "=83") 899,
          Value.str (Str.ofString "=84") 903, Value.str (Str.ofString "=85") 907, Value.str (Str.ofString "=86") 911, Value.str (Str.ofString "=87") 915, Value.str (Str.ofString "=88") 919, Value.str (Str.ofString "=89") 923,
          Value.str (Str.ofString "=8A") 927, Value.str (Str.ofString "=8B") 931, Value.str (Str.ofString "=8C") 935, Value.str (Str.ofString "=8D") 939, Value.str (Str.ofString "=8E") 943, Value.str (Str.ofString "=8F") 947,
          Value.str (Str.ofString "=90") 951, Value.str (Str.ofString "=91") 955, Value.str (Str.ofString "=92") 959, Value.str (Str.ofString "=93") 963, Value.str (Str.ofString "=94") 967, Value.str (Str.ofString "=95") 971,
          Value.str (Str.ofString "=96") 975, Value.str (Str.ofString "=97") 979, Value.str (Str.ofString "=98") 983, Value.str (Str.ofString "=99") 987, Value.str (Str.ofString "=9A") 991, Value.str (Str.ofString "=9B") 995,
          Value.str (Str.ofString "=9C") 999, Value.str (Str.ofString "=9D") 1003, Value.str (Str.ofString "=9E") 1007, Value.str (Str.ofString "=9F") 1011, Value.str (Str.ofString "=A0") 1015, Value.str (Str.ofString "=A1") 1019,
          Value.str (Str.ofString "=A2") 1023, Value.str (Str.ofString "=A3") 1027, Value.str (Str.ofString "=A4") 1031, Value.str (Str.ofString "=A5") 1035, Value.str (Str.ofString "=A6") 1039,
          Value.str (Str.ofString "=A7") 1043, Value.str (Str.ofString "=A8") 1047, Value.str (Str.ofString "=A9") 1051, Value.str (Str.ofString "=AA") 1055, Value.str (Str.ofString "=AB") 1059,
          Value.str (Str.ofString "=AC") 1063, Value.str (Str.ofString "=AD") 1067, Value.str (Str.ofString "=AE") 1071, Value.str (Str.ofString "=AF") 1075, Value.str (Str.ofString "=B0") 1079,
          Value.str (Str.ofString "=B1") 1083, Value.str (Str.ofString "=B2") 1087, Value.str (Str.ofString "=B3") 1091, Value.str (Str.ofString "=B4") 1095, Value.str (Str.ofString "=B5") 1099,
          Value.str (Str.ofString "=B6") 1103, Value.str (Str.ofString "=B7") 1107, Value.str (Str.ofString "=B8") 1111, Value.str (Str.ofString "=B9") 1115, Value.str (Str.ofString "=BA") 1119,
          Value.str (Str.ofString "=BB") 1123, Value.str (Str.ofString "=BC") 1127, Value.str (Str.ofString "=BD") 1131, Value.str (Str.ofString "=BE") 1135, Value.str (Str.ofString "=BF") 1139,
          Value.str (Str.ofString "=C0") 1143, Value.str (Str.ofString "=C1") 1147, Value.str (Str.ofString "=C2") 1151, Value.str (Str.ofString "=C3") 1155, Value.str (Str.ofString "=C4") 1159,
          Value.str (Str.ofString "=C5") 1163, Value.str (Str.ofString "=C6") 1167, Value.str (Str.ofString "=C7") 1171, Value.str (Str.ofString "=C8") 1175, Value.str (Str.ofString "=C9") 1179,
          Value.str (Str.ofString "=CA") 1183, Value.str (Str.ofString "=CB") 1187, Value.str (Str.ofString "=CC") 1191, Value.str (Str.ofString "=CD") 1195, Value.str (Str.ofString "=CE") 1199,
          Value.str (Str.ofString "=CF") 1203, Value.str (Str.ofString "=D0") 1207, Value.str (Str.ofString "=D1") 1211, Value.str (Str.ofString "=D2") 1215, Value.str (Str.ofString "=D3") 1219,
          Value.str (Str.ofString "=D4") 1223, Value.str (Str.ofString "=D5") 1227, Value.str (Str.ofString "=D6") 1231, Value.str (Str.ofString "=D7") 1235, Value.str (Str.ofString "=D8") 1239,
          Value.str (Str.ofString "=D9") 1243, Value.str (Str.ofString "=DA") 1247, Value.str (Str.ofString "=DB") 1251, Value.str (Str.ofString "=DC") 1255, Value.str (Str.ofString "=DD") 1259,
          Value.str (Str.ofString "=DE") 1263, Value.str (Str.ofString "=DF") 1267, Value.str (Str.ofString "=E0") 1271, Value.str (Str.ofString "=E1") 1275, Value.str (Str.ofString "=E2") 1279,
          Value.str (Str.ofString "=E3") 1283, Value.str (Str.ofString "=E4") 1287, Value.str (Str.ofString "=E5") 1291, Value.str (Str.ofString "=E6") 1295, Value.str (Str.ofString "=E7") 1299,
          Value.str (Str.ofString "=E8") 1303, Value.str (Str.ofString "=E9") 1307, Value.str (Str.ofString "=EA") 1311, Value.str (Str.ofString "=EB") 1315, Value.str (Str.ofString "=EC") 1319,
          Value.str (Str.ofString "=ED") 1323, Value.str (Str.ofString "=EE") 1327, Value.str (Str.ofString "=EF") 1331, Value.str (Str.ofString "=F0") 1335, Value.str (Str.ofString "=F1") 1339,
          Value.str (Str.ofString "=F2") 1343, Value.str (Str.ofString "=F3") 1347, Value.str (Str.ofString "=F4") 1351, Value.str (Str.ofString "=F5") 1355, Value.str (Str.ofString "=F6") 1359,
          Value.str (Str.ofString "=F7") 1363, Value.str (Str.ofString "=F8") 1367, Value.str (Str.ofString "=F9") 1371, Value.str (Str.ofString "=FA") 1375, Value.str (Str.ofString "=FB") 1379,
          Value.str (Str.ofString "=FC") 1383, Value.str (Str.ofString "=FD") 1387, Value.str (Str.ofString "=FE") 1391, Value.str (Str.ofString "=FF") 1395] }
noncomputable def ho129 : Params → Obj := fun P => { cls := Value.type "slice", data := Data.fields #[Value.none, Value.none, Value.none] }
noncomputable def ho130 : Params → Obj := fun P =>
  { cls := Value.type "list",
    data :=
      Data.seq
        #[Value.str (Str.ofString "=00") 375, Value.str (Str.ofString "=01") 379, Value.str (Str.ofString "=02") 383, Value.str (Str.ofString "=03") 387, Value.str (Str.ofString "=04") 391, Value.str (Str.ofString "=05") 395,
          Value.str (Str.ofString "=06") 399, Value.str (Str.ofString "=07") 403, Value.str (Str.ofString "=08") 407, Value.str (Str.ofString "=09") 411, Value.str (Str.ofString "=0A") 415, Value.str (Str.ofString "=0B") 419,
          Value.str (Str.ofString "=0C") 423, Value.str (Str.ofString "=0D") 427, Value.str (Str.ofString "=0E") 431, Value.str (Str.ofString "=0F") 435, Value.str (Str.ofString "=10") 439, Value.str (Str.ofString "=11") 443,
          Value.str (Str.ofString "=12") 447, Value.str (Str.ofString "=13") 451, Value.str (Str.ofString "=14") 455, Value.str (Str.ofString "=15") 459, Value.str (Str.ofString "=16") 463, Value.str (Str.ofString "=17") 467,
          Value.str (Str.ofString "=18") 471, Value.str (Str.ofString "=19") 475, Value.str (Str.ofString "=1A") 479, Value.str (Str.ofString "=1B") 483, Value.str (Str.ofString "=1C") 487, Value.str (Str.ofString "=1D") 491,
          Value.str (Str.ofString "=1E") 495, Value.str (Str.ofString "=1F") 499, Value.str (Str.ofString "=20") 503, Value.str (Str.ofString "=21") 507, Value.str (Str.ofString "=22") 511, Value.str (Str.ofString "=23") 515,
          Value.str (Str.ofString "=24") 519, Value.str (Str.ofString "=25") 523, Value.str (Str.ofString "=26") 527, Value.str (Str.ofString "=27") 531, Value.str (Str.ofString "=28") 535, Value.str (Str.ofString "=29") 539,
          Value.str (Str.ofString "=2A") 543, Value.str (Str.ofString "=2B") 547, Value.str (Str.ofString "=2C") 551, Value.str (Str.ofString "=2D") 555, Value.str (Str.ofString "=2E") 559, Value.str (Str.ofString "=2F") 563,
          Value.str (Str.ofString "=30") 567, Value.str (Str.ofString "=31") 571, Value.str (Str.ofString "=32") 575, Value.str (Str.ofString "=33") 579, Value.str (Str.ofString "=34") 583, Value.str (Str.ofString "=35") 587,
          Value.str (Str.ofString "=36") 591, Value.str (Str.ofString "=37") 595, Value.str (Str.ofString "=38") 599, Value.str (Str.ofString "=39") 603, Value.str (Str.ofString "=3A") 607, Value.str (Str.ofString "=3B") 611,
          Value.str (Str.ofString "=3C") 615, Value.str (Str.ofString "=3D") 619, Value.str (Str.ofString "=3E") 623, Value.str (Str.ofString "=3F") 627, Value.str (Str.ofString "=40") 631, Value.str (Str.ofString "=41") 635,
          Value.str (Str.ofString "=42") 639, Value.str (Str.ofString "=43") 643, Value.str (Str.ofString "=44") 647, Value.str (Str.ofString "=45") 651, Value.str (Str.ofString "=46") 655, Value.str (Str.ofString "=47") 659,
          Value.str (Str.ofString "=48") 663, Value.str (Str.ofString "=49") 667, Value.str (Str.ofString "=4A") 671, Value.str (Str.ofString "=4B") 675, Value.str (Str.ofString "=4C") 679, Value.str (Str.ofString "=4D") 683,
          Value.str (Str.ofString "=4E") 687, Value.str (Str.ofString "=4F") 691, Value.str (Str.ofString "=50") 695, Value.str (Str.ofString "=51") 699, Value.str (Str.ofString "=52") 703, Value.str (Str.ofString "=53") 707,
          Value.str (Str.ofString "=54") 711, Value.str (Str.ofString "=55") 715, Value.str (Str.ofString "=56") 719, Value.str (Str.ofString "=57") 723, Value.str (Str.ofString "=58") 727, Value.str (Str.ofString "=59") 731,
          Value.str (Str.ofString "=5A") 735, Value.str (Str.ofString "=5B") 739, Value.str (Str.ofString "=5C") 743, Value.str (Str.ofString "=5D") 747, Value.str (Str.ofString "=5E") 751, Value.str (Str.ofString "=5F") 755,
          Value.str (Str.ofString "=60") 759, Value.str (Str.ofString "=61") 763, Value.str (Str.ofString "=62") 767, Value.str (Str.ofString "=63") 771, Value.str (Str.ofString "=64") 775, Value.str (Str.ofString "=65") 779,
          Value.str (Str.ofString "=66") 783, Value.str (Str.ofString "=67") 787, Value.str (Str.ofString "=68") 791, Value.str (Str.ofString "=69") 795, Value.str (Str.ofString "=6A") 799, Value.str (Str.ofString "=6B") 803,
          Value.str (Str.ofString "=6C") 807, Value.str (Str.ofString "=6D") 811, Value.str (Str.ofString "=6E") 815, Value.str (Str.ofString "=6F") 819, Value.str (Str.ofString "=70") 823, Value.str (Str.ofString "=71") 827,
          Value.str (Str.ofString "=72") 831, Value.str (Str.ofString "=73") 835, Value.str (Str.ofString "=74") 839, Value.str (Str.ofString "=75") 843, Value.str (Str.ofString "=76") 847, Value.str (Str.ofString "=77") 851,
          Value.str (Str.ofString "=78") 855, Value.str (Str.ofString "=79") 859, Value.str (Str.ofString "=7A") 863, Value.str (Str.ofString "=7B") 867, Value.str (Str.ofString "=7C") 871, Value.str (Str.ofString "=7D") 875,
          Value.str (Str.ofString "=7E") 879, Value.str (Str.ofString "=7F") 883, Value.str (Str.ofString "=80") 887, Value.str (Str.ofString "=81") 891, Value.str (Str.ofString "=82") 895, Value.str (Str.ofString "=83") 899,
          Value.str (Str.ofString "=84") 903, Value.str (Str.ofString "=85") 907, Value.str (Str.ofString "=86") 911, Value.str (Str.ofString "=87") 915, Value.str (Str.ofString "=88") 919, Value.str (Str.ofString "=89") 923,
          Value.str (Str.ofString "=8A") 927, Value.str (Str.ofString "=8B") 931, Value.str (Str.ofString "=8C") 935, Value.str (Str.ofString "=8D") 939, Value.str (Str.ofString "=8E") 943, Value.str (Str.ofString "=8F") 947,
          Value.str (Str.ofString "=90") 951, Value.str (Str.ofString "=91") 955, Value.str (Str.ofString "=92") 959, Value.str (Str.ofString "=93") 963, Value.str (Str.ofString "=94") 967, Value.str (Str.ofString "=95") 971,
          Value.str (Str.ofString "=96") 975, Value.str (Str.ofString "=97") 979, Value.str (Str.ofString "=98") 983, Value.str (Str.ofString "=99") 987, Value.str (Str.ofString "=9A") 991, Value.str (Str.ofString "=9B") 995,
          Value.str (Str.ofString "=9C") 999, Value.str (Str.ofString "=9D") 1003, Value.str (Str.ofString "=9E") 1007, Value.str (Str.ofString "=9F") 1011, Value.str (Str.ofString "=A0") 1015, Value.str (Str.ofString "=A1") 1019,
          Value.str (Str.ofString "=A2") 1023, Value.str (Str.ofString "=A3") 1027, Value.str (Str.ofString "=A4") 1031, Value.str (Str.ofString "=A5") 1035, Value.str (Str.ofString "=A6") 1039,
          Value.str (Str.ofString "=A7") 1043, Value.str (Str.ofString "=A8") 1047, Value.str (Str.ofString "=A9") 1051, Value.str (Str.ofString "=AA") 1055, Value.str (Str.ofString "=AB") 1059,
          Value.str (Str.ofString "=AC") 1063, Value.str (Str.ofString "=AD") 1067, Value.str (Str.ofString "=AE") 1071, Value.str (Str.ofString "=AF") 1075, Value.str (Str.ofString "=B0") 1079,
          Value.str (Str.ofString "=B1") 1083, Value.str (Str.ofString "=B2") 1087, Value.str (Str.ofString "=B3") 1091, Value.str (Str.ofString "=B4") 1095, Value.str (Str.ofString "=B5") 1099,
          Value.str (Str.ofString "=B6") 1103, Value.str (Str.ofString "=B7") 1107, Value.str (Str.ofString "=B8") 1111, Value.str (Str.ofString "=B9") 1115, Value.str (Str.ofString "=BA") 1119,
          Value.str (Str.ofString "=BB") 1123, Value.str (Str.ofString "=BC") 1127, Value.str (Str.ofString "=BD") 1131, Value.str (Str.ofString "=BE") 1135, Value.str (Str.ofString "=BF") 1139,
          Value.str (Str.ofString "=C0") 1143, Value.str (Str.ofString "=C1") 1147, Value.str (Str.ofString "=C2") 1151, Value.str (Str.ofString "=C3") 1155, Value.str (Str.ofString "=C4") 1159,
          Value.str (Str.ofString "=C5") 1163, Value.str (Str.ofString "=C6") 1167, Value.str (Str.ofString "=C7") 1171, Value.str (Str.ofString "=C8") 1175, Value.str (Str.ofString "=C9") 1179,
          Value.str (Str.ofString "=CA") 1183, Value.str (Str.ofString "=CB") 1187, Value.str (Str.ofString "=CC") 1191, Value.str (Str.ofString "=CD") 1195, Value.str (Str.ofString "=CE") 1199,
          Value.str (Str.ofString "=CF") 1203, Value.str (Str.ofString "=D0") 1207, Value.str (Str.ofString "=D1") 1211, Value.str (Str.ofString "=D2") 1215, Value.str (Str.ofString "=D3") 1219,
          Value.str (Str.ofString "=D4") 1223, Value.str (Str.ofString "=D5") 1227, Value.str (Str.ofString "=D6") 1231, Value.str (Str.ofString "=D7") 1235, Value.str (Str.ofString "=D8") 1239,
          Value.str (Str.ofString "=D9") 1243, Value.str (Str.ofString "=DA") 1247, Value.str (Str.ofString "=DB") 1251, Value.str (Str.ofString "=DC") 1255, Value.str (Str.ofString "=DD") 1259,
          Value.str (Str.ofString "=DE") 1263, Value.str (Str.ofString "=DF") 1267, Value.str (Str.ofString "=E0") 1271, Value.str (Str.ofString "=E1") 1275, Value.str (Str.ofString "=E2") 1279,
          Value.str (Str.ofString "=E3") 1283, Value.str (Str.ofString "=E4") 1287, Value.str (Str.ofString "=E5") 1291, Value.str (Str.ofString "=E6") 1295, Value.str (Str.ofString "=E7") 1299,
          Value.str (Str.ofString "=E8") 1303, Value.str (Str.ofString "=E9") 1307, Value.str (Str.ofString "=EA") 1311, Value.str (Str.ofString "=EB") 1315, Value.str (Str.ofString "=EC") 1319,
          Value.str (Str.ofString "=ED") 1323, Value.str (Str.ofString "=EE") 1327, Value.str (Str.ofString "=EF") 1331, Value.str (Str.ofString "=F0") 1335, Value.str (Str.ofString "=F1") 1339,
          Value.str (Str.ofString "=F2") 1343, Value.str (Str.ofString "=F3") 1347, Value.str (Str.ofString "=F4") 1351, Value.str (Str.ofString "=F5") 1355, Value.str (Str.ofString "=F6") 1359,
          Value.str (Str.ofString "=F7") 1363, Value.str (Str.ofString "=F8") 1367, Value.str (Str.ofString "=F9") 1371, Value.str (Str.ofString "=FA") 1375, Value.str (Str.ofString "=FB") 1379,
          Value.str (Str.ofString "=FC") 1383, Value.str (Str.ofString "=FD") 1387, Value.str (Str.ofString "=FE") 1391, Value.str (Str.ofString "=FF") 1395] }
noncomputable def ho131 : Params → Obj := fun P => { cls := Value.type "bytes_iterator", data := Data.fields #[Value.none, Value.int 67 0] }
noncomputable def ho132 : Params → Obj := fun P => { cls := Value.type "tuple", data := Data.seq #[] }
noncomputable def ho133 : Params → Obj := fun P => { cls := Value.type "StopIteration", data := Data.fields #[Value.ref 85, Value.none, Value.none, Value.none, Value.bool false, Value.none] }
noncomputable def ho134 : Params → Obj := fun P =>
  { cls := Value.type "dict",
    data :=
      Data.dict
        #[{ hash := PyData.keyHash P (Str.ofString "__name__"), key := Value.str (Str.ofString "__name__") 165, val := Value.str (Str.ofString "law_il0164_01") 1970 },
          { hash := PyData.keyHash P (Str.ofString "__doc__"), key := Value.str (Str.ofString "__doc__") 166, val := Value.none },
          { hash := PyData.keyHash P (Str.ofString "__package__"), key := Value.str (Str.ofString "__package__") 167, val := Value.none },
          { hash := PyData.keyHash P (Str.ofString "__loader__"), key := Value.str (Str.ofString "__loader__") 168, val := Value.builtin "__main__.__loader__#opaque" },
          { hash := PyData.keyHash P (Str.ofString "__spec__"), key := Value.str (Str.ofString "__spec__") 169, val := Value.none },
          { hash := PyData.keyHash P (Str.ofString "__annotations__"), key := Value.str (Str.ofString "__annotations__") 170, val := Value.ref 6 },
          { hash := PyData.keyHash P (Str.ofString "__builtins__"), key := Value.str (Str.ofString "__builtins__") 171, val := Value.ref 4 },
          { hash := PyData.keyHash P (Str.ofString "__file__"), key := Value.str (Str.ofString "__file__") 173, val := Value.str (Str.ofString "/claim/cut.py") 172 },
          { hash := PyData.keyHash P (Str.ofString "__cached__"), key := Value.str (Str.ofString "__cached__") 174, val := Value.none },
          { hash := PyData.keyHash P (Str.ofString "_sre"), key := Value.str (Str.ofString "_sre") 275, val := Value.ref 12 },
          { hash := PyData.keyHash P (Str.ofString "_wall"), key := Value.str (Str.ofString "_wall") 288, val := Value.ref 38 },
          { hash := PyData.keyHash P (Str.ofString "_buffer"), key := Value.str (Str.ofString "_buffer") 298, val := Value.ref 45 },
          { hash := PyData.keyHash P (Str.ofString "_truth"), key := Value.str (Str.ofString "_truth") 306, val := Value.ref 52 },
          { hash := PyData.keyHash P (Str.ofString "_B64"), key := Value.str (Str.ofString "_B64") 308,
            val :=
              Value.bytes
                #[65, 66, 67, 68, 69, 70, 71, 72, 73, 74, 75, 76, 77, 78, 79, 80, 81, 82, 83, 84, 85, 86, 87, 88, 89, 90, 97, 98, 99, 100, 101, 102, 103, 104, 105, 106, 107, 108, 109, 110, 111, 112, 113, 114, 115, 116, 117, 118,
                  119, 120, 121, 122, 48, 49, 50, 51, 52, 53, 54, 55, 56, 57, 43, 47]
                307 },
          { hash := PyData.keyHash P (Str.ofString "b2a_base64"), key := Value.str (Str.ofString "b2a_base64") 322, val := Value.ref 60 },
          { hash := PyData.keyHash P (Str.ofString "b64encode"), key := Value.str (Str.ofString "b64encode") 333, val := Value.ref 68 },
          { hash := PyData.keyHash P (Str.ofString "_twin_re_1"), key := Value.str (Str.ofString "_twin_re_1") 368, val := Value.ref 73 },
          { hash := PyData.keyHash P (Str.ofString "_QUOPRI_MAP"), key := Value.str (Str.ofString "_QUOPRI_MAP") 1396, val := Value.ref 76 },
          { hash := PyData.keyHash P (Str.ofString "_QUOPRI_HEADER_MAP"), key := Value.str (Str.ofString "_QUOPRI_HEADER_MAP") 1397, val := Value.ref 81 },
          { hash := PyData.keyHash P (Str.ofString "_QUOPRI_BODY_MAP"), key := Value.str (Str.ofString "_QUOPRI_BODY_MAP") 1398, val := Value.ref 83 },
          { hash := PyData.keyHash P (Str.ofString "ascii_lowercase"), key := Value.str (Str.ofString "ascii_lowercase") 1400, val := Value.str (Str.ofString "abcdefghijklmnopqrstuvwxyz") 1399 },
          { hash := PyData.keyHash P (Str.ofString "ascii_uppercase"), key := Value.str (Str.ofString "ascii_uppercase") 1402, val := Value.str (Str.ofString "ABCDEFGHIJKLMNOPQRSTUVWXYZ") 1401 },
          { hash := PyData.keyHash P (Str.ofString "ascii_letters"), key := Value.str (Str.ofString "ascii_letters") 1404, val := Value.str (Str.ofString "abcdefghijklmnopqrstuvwxyzABCDEFGHIJKLMNOPQRSTUVWXYZ") 1403 },
          { hash := PyData.keyHash P (Str.ofString "digits"), key := Value.str (Str.ofString "digits") 1406, val := Value.str (Str.ofString "0123456789") 1405 },
          { hash := PyData.keyHash P (Str.ofString "unquote"), key := Value.str (Str.ofString "unquote") 1912, val := Value.ref 96 },
          { hash := PyData.keyHash P (Str.ofString "header_encode"), key := Value.str (Str.ofString "header_encode") 1922, val := Value.ref 104 },
          { hash := PyData.keyHash P (Str.ofString "_QUOPRI_BODY_ENCODE_MAP"), key := Value.str (Str.ofString "_QUOPRI_BODY_ENCODE_MAP") 1923, val := Value.ref 106 },
          { hash := PyData.keyHash P (Str.ofString "_unquote_match"), key := Value.str (Str.ofString "_unquote_match") 1938, val := Value.ref 116 },
          { hash := PyData.keyHash P (Str.ofString "header_decode"), key := Value.str (Str.ofString "header_decode") 1945, val := Value.ref 123 },
          { hash := PyData.keyHash P (Str.ofString "cmp_to_key"), key := Value.str (Str.ofString "cmp_to_key") 1956, val := Value.ref 130 },
          { hash := PyData.keyHash P (Str.ofString "_initial_missing"), key := Value.str (Str.ofString "_initial_missing") 1957, val := Value.ref 131 },
          { hash := PyData.keyHash P (Str.ofString "reduce"), key := Value.str (Str.ofString "reduce") 1969, val := Value.ref 139 },
          { hash := PyData.keyHash P (Str.ofString "_law_compare"), key := Value.str (Str.ofString "_law_compare") 1979, val := Value.ref 146 },
          { hash := PyData.keyHash P (Str.ofString "_law_best"), key := Value.str (Str.ofString "_law_best") 1989, val := Value.ref 153 },
          { hash := PyData.keyHash P (Str.ofString "_law_lengths"), key := Value.str (Str.ofString "_law_lengths") 1995, val := Value.ref 158 },
          { hash := PyData.keyHash P (Str.ofString "_law_threes"), key := Value.str (Str.ofString "_law_threes") 2007, val := Value.ref 165 },
          { hash := PyData.keyHash P (Str.ofString "_law_read"), key := Value.str (Str.ofString "_law_read") 2013, val := Value.ref 170 },
          { hash := PyData.keyHash P (Str.ofString "law"), key := Value.str (Str.ofString "law") 2019, val := Value.ref 175 }]
        40 }
noncomputable def ho135 : Params → Obj := fun P =>
  { cls := Value.none,
    data :=
      Data.fields
        #[Value.int 2 0, Value.int 0 0, Value.ref 37, Value.int 6 0, Value.int 0 0, Value.ref 44, Value.int 13 0, Value.int 0 0, Value.ref 51, Value.int 19 0, Value.int 0 0, Value.ref 59, Value.int 42 0, Value.int 0 0,
          Value.ref 67, Value.int 62 0, Value.int 0 0, Value.ref 95, Value.int 64 0, Value.int 0 0, Value.ref 103, Value.int 73 0, Value.int 0 0, Value.ref 115, Value.int 76 0, Value.int 0 0, Value.ref 122, Value.int 80 0,
          Value.int 0 0, Value.ref 129, Value.int 106 0, Value.int 0 0, Value.ref 138, Value.int 119 0, Value.int 0 0, Value.ref 145, Value.int 123 0, Value.int 0 0, Value.ref 152, Value.int 135 0, Value.int 0 0, Value.ref 157,
          Value.int 148 0, Value.int 0 0, Value.ref 164, Value.int 157 0, Value.int 0 0, Value.ref 169, Value.int 165 0, Value.int 0 0, Value.ref 174] }
noncomputable def ho136 : Params → Obj := fun P =>
  { cls := Value.type "list",
    data :=
      Data.seq
        #[Value.str (Str.ofString "=00") 375, Value.str (Str.ofString "=01") 379, Value.str (Str.ofString "=02") 383, Value.str (Str.ofString "=03") 387, Value.str (Str.ofString "=04") 391, Value.str (Str.ofString "=05") 395,
          Value.str (Str.ofString "=06") 399, Value.str (Str.ofString "=07") 403, Value.str (Str.ofString "=08") 407, Value.str (Str.ofString "\t") 1905, Value.str (Str.ofString "=0A") 415, Value.str (Str.ofString "=0B") 419,
          Value.str (Str.ofString "=0C") 423, Value.str (Str.ofString "=0D") 427, Value.str (Str.ofString "=0E") 431, Value.str (Str.ofString "=0F") 435, Value.str (Str.ofString "=10") 439, Value.str (Str.ofString "=11") 443,
          Value.str (Str.ofString "=12") 447, Value.str (Str.ofString "=13") 451, Value.str (Str.ofString "=14") 455, Value.str (Str.ofString "=15") 459, Value.str (Str.ofString "=16") 463, Value.str (Str.ofString "=17") 467,
          Value.str (Str.ofString "=18") 471, Value.str (Str.ofString "=19") 475, Value.str (Str.ofString "=1A") 479, Value.str (Str.ofString "=1B") 483, Value.str (Str.ofString "=1C") 487, Value.str (Str.ofString "=1D") 491,
          Value.str (Str.ofString "=1E") 495, Value.str (Str.ofString "=1F") 499, Value.str (Str.ofString " ") 1623, Value.str (Str.ofString "!") 1626, Value.str (Str.ofString "\"") 1629, Value.str (Str.ofString "#") 1632,
          Value.str (Str.ofString "$") 1635, Value.str (Str.ofString "%") 1638, Value.str (Str.ofString "&") 1641, Value.str (Str.ofString "'") 1644, Value.str (Str.ofString "(") 1647, Value.str (Str.ofString ")") 1650,
          Value.str (Str.ofString "*") 1653, Value.str (Str.ofString "+") 1656, Value.str (Str.ofString ",") 1659, Value.str (Str.ofString "-") 1662, Value.str (Str.ofString ".") 1665, Value.str (Str.ofString "/") 1668,
          Value.str (Str.ofString "0") 1671, Value.str (Str.ofString "1") 1674, Value.str (Str.ofString "2") 1677, Value.str (Str.ofString "3") 1680, Value.str (Str.ofString "4") 1683, Value.str (Str.ofString "5") 1686,
          Value.str (Str.ofString "6") 1689, Value.str (Str.ofString "7") 1692, Value.str (Str.ofString "8") 1695, Value.str (Str.ofString "9") 1698, Value.str (Str.ofString ":") 1701, Value.str (Str.ofString ";") 1704,
          Value.str (Str.ofString "<") 1707, Value.str (Str.ofString "=3D") 619, Value.str (Str.ofString ">") 1710, Value.str (Str.ofString "?") 1713, Value.str (Str.ofString "@") 1716, Value.str (Str.ofString "A") 1719,
          Value.str (Str.ofString "B") 1722, Value.str (Str.ofString "C") 1725, Value.str (Str.ofString "D") 1728, Value.str (Str.ofString "E") 1731, Value.str (Str.ofString "F") 1734, Value.str (Str.ofString "G") 1737,
          Value.str (Str.ofString "H") 1740, Value.str (Str.ofString "I") 1743, Value.str (Str.ofString "J") 1746, Value.str (Str.ofString "K") 1749, Value.str (Str.ofString "L") 1752, Value.str (Str.ofString "M") 1755,
          Value.str (Str.ofString "N") 1758, Value.str (Str.ofString "O") 1761, Value.str (Str.ofString "P") 1764, Value.str (Str.ofString "Q") 1767, Value.str (Str.ofString "R") 1770, Value.str (Str.ofString "S") 1773,
          Value.str (Str.ofString "T") 1776, Value.str (Str.ofString "U") 1779, Value.str (Str.ofString "V") 1782, Value.str (Str.ofString "W") 1785, Value.str (Str.ofString "X") 1788, Value.str (Str.ofString "Y") 1791,
          Value.str (Str.ofString "Z") 1794, Value.str (Str.ofString "[") 1797, Value.str (Str.ofString "\\") 1800, Value.str (Str.ofString "]") 1803, Value.str (Str.ofString "^") 1806, Value.str (Str.ofString "_") 1809,
          Value.str (Str.ofString "`") 1812, Value.str (Str.ofString "a") 1815, Value.str (Str.ofString "b") 1818, Value.str (Str.ofString "c") 1821, Value.str (Str.ofString "d") 1824, Value.str (Str.ofString "e") 1827,
          Value.str (Str.ofString "f") 1830, Value.str (Str.ofString "g") 1833, Value.str (Str.ofString "h") 1836, Value.str (Str.ofString "i") 1839, Value.str (Str.ofString "j") 1842, Value.str (Str.ofString "k") 1845,
          Value.str (Str.ofString "l") 1848, Value.str (Str.ofString "m") 1851, Value.str (Str.ofString "n") 1854, Value.str (Str.ofString "o") 1857, Value.str (Str.ofString "p") 1860, Value.str (Str.ofString "q") 1863,
          Value.str (Str.ofString "r") 1866, Value.str (Str.ofString "s") 1869, Value.str (Str.ofString "t") 1872, Value.str (Str.ofString "u") 1875, Value.str (Str.ofString "v") 1878, Value.str (Str.ofString "w") 1881,
          Value.str (Str.ofString "x") 1884, Value.str (Str.ofString "y") 1887, Value.str (Str.ofString "z") 1890, Value.str (Str.ofString "{") 1893, Value.str (Str.ofString "|") 1896, Value.str (Str.ofString "}") 1899,
          Value.str (Str.ofString "~") 1902, Value.str (Str.ofString "=7F") 883, Value.str (Str.ofString "=80") 887, Value.str (Str.ofString "=81") 891, Value.str (Str.ofString "=82") 895, Value.str (Str.ofString "=83") 899,
          Value.str (Str.ofString "=84") 903, Value.str (Str.ofString "=85") 907, Value.str (Str.ofString "=86") 911, Value.str (Str.ofString "=87") 915, Value.str (Str.ofString "=88") 919, Value.str (Str.ofString "=89") 923,
          Value.str (Str.ofString "=8A") 927, Value.str (Str.ofString "=8B") 931, Value.str (Str.ofString "=8C") 935, Value.str (Str.ofString "=8D") 939, Value.str (Str.ofString "=8E") 943, Value.str (Str.ofString "=8F") 947,
          Value.str (Str.ofString "=90") 951, Value.str (Str.ofString "=91") 955, Value.str (Str.ofString "=92") 959, Value.str (Str.ofString "=93") 963, Value.str (Str.ofString "=94") 967, Value.str (Str.ofString "=95") 971,
          Value.str (Str.ofString "=96") 975, Value.str (Str.ofString "=97") 979, Value.str (Str.ofString "=98") 983, Value.str (Str.ofString "=99") 987, Value.str (Str.ofString "=9A") 991, Value.str (Str.ofString "=9B") 995,
          Value.str (Str.ofString "=9C") 999, Value.str (Str.ofString "=9D") 1003, Value.str (Str.ofString "=9E") 1007, Value.str (Str.ofString "=9F") 1011, Value.str (Str.ofString "=A0") 1015, Value.str (Str.ofString "=A1") 1019,
          Value.str (Str.ofString "=A2") 1023, Value.str (Str.ofString "=A3") 1027, Value.str (Str.ofString "=A4") 1031, Value.str (Str.ofString "=A5") 1035, Value.str (Str.ofString "=A6") 1039,
          Value.str (Str.ofString "=A7") 1043, Value.str (Str.ofString "=A8") 1047, Value.str (Str.ofString "=A9") 1051, Value.str (Str.ofString "=AA") 1055, Value.str (Str.ofString "=AB") 1059,
          Value.str (Str.ofString "=AC") 1063, Value.str (Str.ofString "=AD") 1067, Value.str (Str.ofString "=AE") 1071, Value.str (Str.ofString "=AF") 1075, Value.str (Str.ofString "=B0") 1079,
          Value.str (Str.ofString "=B1") 1083, Value.str (Str.ofString "=B2") 1087, Value.str (Str.ofString "=B3") 1091, Value.str (Str.ofString "=B4") 1095, Value.str (Str.ofString "=B5") 1099,
          Value.str (Str.ofString "=B6") 1103, Value.str (Str.ofString "=B7") 1107, Value.str (Str.ofString "=B8") 1111, Value.str (Str.ofString "=B9") 1115, Value.str (Str.ofString "=BA") 1119,
          Value.str (Str.ofString "=BB") 1123, Value.str (Str.ofString "=BC") 1127, Value.str (Str.ofString "=BD") 1131, Value.str (Str.ofString "=BE") 1135, Value.str (Str.ofString "=BF") 1139,
          Value.str (Str.ofString "=C0") 1143, Value.str (Str.ofString "=C1") 1147, Value.str (Str.ofString "=C2") 1151, Value.str (Str.ofString "=C3") 1155, Value.str (Str.ofString "=C4") 1159,
          Value.str (Str.ofString "=C5") 1163, Value.str (Str.ofString "=C6") 1167, Value.str (Str.ofString "=C7") 1171, Value.str (Str.ofString "=C8") 1175, Value.str (Str.ofString "=C9") 1179,
          Value.str (Str.ofString "=CA") 1183, Value.str (Str.ofString "=CB") 1187, Value.str (Str.ofString "=CC") 1191, Value.str (Str.ofString "=CD") 1195, Value.str (Str.ofString "=CE") 1199,
          Value.str (Str.ofString "=CF") 1203, Value.str (Str.ofString "=D0") 1207, Value.str (Str.ofString "=D1") 1211, Value.str (Str.ofString "=D2") 1215, Value.str (Str.ofString "=D3") 1219,
          Value.str (Str.ofString "=D4") 1223, Value.str (Str.ofString "=D5") 1227, Value.str (Str.ofString "=D6") 1231, Value.str (Str.ofString "=D7") 1235, Value.str (Str.ofString "=D8") 1239,
          Value.str (Str.ofString "=D9") 1243, Value.str (Str.ofString "=DA") 1247, Value.str (Str.ofString "=DB") 1251, Value.str (Str.ofString "=DC") 1255, Value.str (Str.ofString "=DD") 1259,
          Value.str (Str.ofString "=DE") 1263, Value.str (Str.ofString "=DF") 1267, Value.str (Str.ofString "=E0") 1271, Value.str (Str.ofString "=E1") 1275, Value.str (Str.ofString "=E2") 1279,
          Value.str (Str.ofString "=E3") 1283, Value.str (Str.ofString "=E4") 1287, Value.str (Str.ofString "=E5") 1291, Value.str (Str.ofString "=E6") 1295, Value.str (Str.ofString "=E7") 1299,
          Value.str (Str.ofString "=E8") 1303, Value.str (Str.ofString "=E9") 1307, Value.str (Str.ofString "=EA") 1311, Value.str (Str.ofString "=EB") 1315, Value.str (Str.ofString "=EC") 1319,
          Value.str (Str.ofString "=ED") 1323, Value.str (Str.ofString "=EE") 1327, Value.str (Str.ofString "=EF") 1331, Value.str (Str.ofString "=F0") 1335, Value.str (Str.ofString "=F1") 1339,
          Value.str (Str.ofString "=F2") 1343, Value.str (Str.ofString "=F3") 1347, Value.str (Str.ofString "=F4") 1351, Value.str (Str.ofString "=F5") 1355, Value.str (Str.ofString "=F6") 1359,
          Value.str (Str.ofString "=F7") 1363, Value.str (Str.ofString "=F8") 1367, Value.str (Str.ofString "=F9") 1371, Value.str (Str.ofString "=FA") 1375, Value.str (Str.ofString "=FB") 1379,
          Value.str (Str.ofString "=FC") 1383, Value.str (Str.ofString "=FD") 1387, Value.str (Str.ofString "=FE") 1391, Value.str (Str.ofString "=FF") 1395] }
noncomputable def ho137 : Params → Obj := fun P => { cls := Value.type "bytes_iterator", data := Data.fields #[Value.none, Value.int 95 0] }
noncomputable def ho138 : Params → Obj := fun P => { cls := Value.type "tuple", data := Data.seq #[] }
noncomputable def ho139 : Params → Obj := fun P => { cls := Value.type "StopIteration", data := Data.fields #[Value.ref 88, Value.none, Value.none, Value.none, Value.bool false, Value.none] }
noncomputable def ho140 : Params → Obj := fun P => { cls := Value.type "tuple", data := Data.seq #[] }
noncomputable def ho141 : Params → Obj := fun P => { cls := Value.none, data := Data.fields #[] }
noncomputable def ho142 : Params → Obj := fun P => { cls := Value.type "tuple", data := Data.seq #[Value.str (Str.ofString "s") 1909] }
noncomputable def ho143 : Params → Obj := fun P => { cls := Value.type "tuple", data := Data.seq #[] }
noncomputable def ho144 : Params → Obj := fun P =>
  { cls := Value.none,
    data := Data.func { name := Str.ofString "unquote", qualname := Str.ofString "unquote", params := fA5, body := fB5, scope := fS5, globals := 0, closure := [], defaults := Value.none, kwdefaults := Value.none } }
noncomputable def ho145 : Params → Obj := fun P =>
  { cls := Value.type "code",
    data :=
      Data.fields
        #[Value.str (Str.ofString "unquote") 1906, Value.str (Str.ofString "unquote") 1907, Value.str (Str.ofString "/claim/cut.py") 1908, Value.int 62 0, Value.int 1 0, Value.int 0 0, Value.int 0 0, Value.int 3 0, Value.ref 90,
          Value.bool true, Value.int 276 0, Value.ref 91, Value.none, Value.ref 92, Value.ref 93, Value.ref 94, Value.int 1910 0, Value.int 62 0, Value.str (Str.ofString "/claim/cut.py") 1911] }
noncomputable def ho146 : Params → Obj := fun P =>
  { cls := Value.type "function",
    data :=
      Data.func
        { name := Str.ofString "unquote", qualname := Str.ofString "unquote", params := fA5, body := fB5, scope := fS5, globals := 3, closure := [], defaults := Value.none, kwdefaults := Value.none,
          pyModule := Value.str (Str.ofString "cpy313.email.quoprimime") 1407, code := Value.ref 95 } }
noncomputable def ho147 : Params → Obj := fun P => { cls := Value.type "tuple", data := Data.seq #[Value.str (Str.ofString "iso-8859-1") 1913] }
noncomputable def ho148 : Params → Obj := fun P => { cls := Value.type "tuple", data := Data.seq #[] }
noncomputable def ho149 : Params → Obj := fun P => { cls := Value.none, data := Data.fields #[] }
noncomputable def ho150 : Params → Obj := fun P => { cls := Value.type "tuple", data := Data.seq #[Value.str (Str.ofString "header_bytes") 1917, Value.str (Str.ofString "charset") 1918, Value.str (Str.ofString "encoded") 1919] }
noncomputable def ho151 : Params → Obj := fun P => { cls := Value.type "tuple", data := Data.seq #[] }
noncomputable def ho152 : Params → Obj := fun P =>
  { cls := Value.none,
    data := Data.func { name := Str.ofString "header_encode", qualname := Str.ofString "header_encode", params := fA6, body := fB6, scope := fS6, globals := 0, closure := [], defaults := Value.none, kwdefaults := Value.none } }
noncomputable def ho153 : Params → Obj := fun P =>
  { cls := Value.type "code",
    data :=
      Data.fields
        #[Value.str (Str.ofString "header_encode") 1914, Value.str (Str.ofString "header_encode") 1915, Value.str (Str.ofString "/claim/cut.py") 1916, Value.int 64 0, Value.int 2 0, Value.int 0 0, Value.int 0 0, Value.int 3 0,
          Value.ref 98, Value.bool true, Value.int 276 0, Value.ref 99, Value.none, Value.ref 100, Value.ref 101, Value.ref 102, Value.int 1920 0, Value.int 64 0, Value.str (Str.ofString "/claim/cut.py") 1921] }
noncomputable def ho154 : Params → Obj := fun P =>
  { cls := Value.type "function",
    data :=
      Data.func
        { name := Str.ofString "header_encode", qualname := Str.ofString "header_encode", params := fA6, body := fB6, scope := fS6, globals := 3, closure := [], defaults := Value.ref 97, kwdefaults := Value.none,
          pyModule := Value.str (Str.ofString "cpy313.email.quoprimime") 1407, code := Value.ref 103 } }
noncomputable def ho155 : Params → Obj := fun P => { cls := Value.type "slice", data := Data.fields #[Value.none, Value.none, Value.none] }
noncomputable def ho156 : Params → Obj := fun P =>
  { cls := Value.type "list",
    data :=
      Data.seq
        #[Value.str (Str.ofString "=00") 375, Value.str (Str.ofString "=01") 379, Value.str (Str.ofString "=02") 383, Value.str (Str.ofString "=03") 387, Value.str (Str.ofString "=04") 391, Value.str (Str.ofString "=05") 395,
          Value.str (Str.ofString "=06") 399, Value.str (Str.ofString "=07") 403, Value.str (Str.ofString "=08") 407, Value.str (Str.ofString "\t") 1905, Value.str (Str.ofString "\n") 1930, Value.str (Str.ofString "=0B") 419,
          Value.str (Str.ofString "=0C") 423, Value.str (Str.ofString "\x0d") 1927, Value.str (Str.ofString "=0E") 431, Value.str (Str.ofString "=0F") 435, Value.str (Str.ofString "=10") 439, Value.str (Str.ofString "=11") 443,
          Value.str (Str.ofString "=12") 447, Value.str (Str.ofString "=13") 451, Value.str (Str.ofString "=14") 455, Value.str (Str.ofString "=15") 459, Value.str (Str.ofString "=16") 463, Value.str (Str.ofString "=17") 467,
          Value.str (Str.ofString "=18") 471, Value.str (Str.ofString "=19") 475, Value.str (Str.ofString "=1A") 479, Value.str (Str.ofString "=1B") 483, Value.str (Str.ofString "=1C") 487, Value.str (Str.ofString "=1D") 491,
          Value.str (Str.ofString "=1E") 495, Value.str (Str.ofString "=1F") 499, Value.str (Str.ofString " ") 1623, Value.str (Str.ofString "!") 1626, Value.str (Str.ofString "\"") 1629, Value.str (Str.ofString "#") 1632,
          Value.str (Str.ofString "$") 1635, Value.str (Str.ofString "%") 1638, Value.str (Str.ofString "&") 1641, Value.str (Str.ofString "'") 1644, Value.str (Str.ofString "(") 1647, Value.str (Str.ofString ")") 1650,
          Value.str (Str.ofString "*") 1653, Value.str (Str.ofString "+") 1656, Value.str (Str.ofString ",") 1659, Value.str (Str.ofString "-") 1662, Value.str (Str.ofString ".") 1665, Value.str (Str.ofString "/") 1668,
          Value.str (Str.ofString "0") 1671, Value.str (Str.ofString "1") 1674, Value.str (Str.ofString "2") 1677, Value.str (Str.ofString "3") 1680, Value.str (Str.ofString "4") 1683, Value.str (Str.ofString "5") 1686,
          Value.str (Str.ofString "6") 1689, Value.str (Str.ofString "7") 1692, Value.str (Str.ofString "8") 1695, Value.str (Str.ofString "9") 1698, Value.str (Str.ofString ":") 1701, Value.str (Str.ofString ";") 1704,
          Value.str (Str.ofString "<") 1707, Value.str (Str.ofString "=3D") 619, Value.str (Str.ofString ">") 1710, Value.str (Str.ofString "?") 1713, Value.str (Str.ofString "@") 1716, Value.str (Str.ofString "A") 1719,
          Value.str (Str.ofString "B") 1722, Value.str (Str.ofString "C") 1725, Value.str (Str.ofString "D") 1728, Value.str (Str.ofString "E") 1731, Value.str (Str.ofString "F") 1734, Value.str (Str.ofString "G") 1737,
          Value.str (Str.ofString "H") 1740, Value.str (Str.ofString "I") 1743, Value.str (Str.ofString "J") 1746, Value.str (Str.ofString "K") 1749, Value.str (Str.ofString "L") 1752, Value.str (Str.ofString "M") 1755,
          Value.str (Str.ofString "N") 1758, Value.str (Str.ofString "O") 1761, Value.str (Str.ofString "P") 1764, Value.str (Str.ofString "Q") 1767, Value.str (Str.ofString "R") 1770, Value.str (Str.ofString "S") 1773,
          Value.str (Str.ofString "T") 1776, Value.str (Str.ofString "U") 1779, Value.str (Str.ofString "V") 1782, Value.str (Str.ofString "W") 1785, Value.str (Str.ofString "X") 1788, Value.str (Str.ofString "Y") 1791,
          Value.str (Str.ofString "Z") 1794, Value.str (Str.ofString "[") 1797, Value.str (Str.ofString "\\") 1800, Value.str (Str.ofString "]") 1803, Value.str (Str.ofString "^") 1806, Value.str (Str.ofString "_") 1809,
          Value.str (Str.ofString "`") 1812, Value.str (Str.ofString "a") 1815, Value.str (Str.ofString "b") 1818, Value.str (Str.ofString "c") 1821, Value.str (Str.ofString "d") 1824, Value.str (Str.ofString "e") 1827,
          Value.str (Str.ofString "f") 1830, Value.str (Str.ofString "g") 1833, Value.str (Str.ofString "h") 1836, Value.str (Str.ofString "i") 1839, Value.str (Str.ofString "j") 1842, Value.str (Str.ofString "k") 1845,
          Value.str (Str.ofString "l") 1848, Value.str (Str.ofString "m") 1851, Value.str (Str.ofString "n") 1854, Value.str (Str.ofString "o") 1857, Value.str (Str.ofString "p") 1860, Value.str (Str.ofString "q") 1863,
          Value.str (Str.ofString "r") 1866, Value.str (Str.ofString "s") 1869, Value.str (Str.ofString "t") 1872, Value.str (Str.ofString "u") 1875, Value.str (Str.ofString "v") 1878, Value.str (Str.ofString "w") 1881,
          Value.str (Str.ofString "x") 1884, Value.str (Str.ofString "y") 1887, Value.str (Str.ofString "z") 1890, Value.str (Str.ofString "{") 1893, Value.str (Str.ofString "|") 1896, Value.str (Str.ofString "}") 1899,
          Value.str (Str.ofString "~") 1902, Value.str (Str.ofString "=7F") 883, Value.str (Str.ofString "=80") 887, Value.str (Str.ofString "=81") 891, Value.str (Str.ofString "=82") 895, Value.str (Str.ofString "=83") 899,
          Value.str (Str.ofString "=84") 903, Value.str (Str.ofString "=85") 907, Value.str (Str.ofString "=86") 911, Value.str (Str.ofString "=87") 915, Value.str (Str.ofString "=88") 919, Value.str (Str.ofString "=89") 923,
          Value.str (Str.ofString "=8A") 927, Value.str (Str.ofString "=8B") 931, Value.str (Str.ofString "=8C") 935, Value.str (Str.ofString "=8D") 939, Value.str (Str.ofString "=8E") 943, Value.str (Str.ofString "=8F") 947,
          Value.str (Str.ofString "=90") 951, Value.str (Str.ofString "=91") 955, Value.str (Str.ofString "=92") 959, Value.str (Str.ofString "=93") 963, Value.str (Str.ofString "=94") 967, Value.str (Str.ofString "=95") 971,
          Value.str (Str.ofString "=96") 975, Value.str (Str.ofString "=97") 979, Value.str (Str.ofString "=98") 983, Value.str (Str.ofString "=99") 987, Value.str (Str.ofString "=9A") 991, Value.str (Str.ofString "=9B") 995,
          Value.str (Str.ofString "=9C") 999, Value.str (Str.ofString "=9D") 1003, Value.str (Str.ofString "=9E") 1007, Value.str (Str.ofString "=9F") 1011, Value.str (Str.ofString "=A0") 1015, Value.str (Str.ofString "=A1") 1019,
          Value.str (Str.ofString "=A2") 1023, Value.str (Str.ofString "=A3") 1027, Value.str (Str.ofString "=A4") 1031, Value.str (Str.ofString "=A5") 1035, Value.str (Str.ofString "=A6") 1039,
          Value.str (Str.ofString "=A7") 1043, Value.str (Str.ofString "=A8") 1047, Value.str (Str.ofString "=A9") 1051, Value.str (Str.ofString "=AA") 1055, Value.str (Str.ofString "=AB") 1059,
          Value.str (Str.ofString "=AC") 1063, Value.str (Str.ofString "=AD") 1067, Value.str (Str.ofString "=AE") 1071, Value.str (Str.ofString "=AF") 1075, Value.str (Str.ofString "=B0") 1079,
          Value.str (Str.ofString "=B1") 1083, Value.str (Str.ofString "=B2") 1087, Value.str (Str.ofString "=B3") 1091, Value.str (Str.ofString "=B4") 1095, Value.str (Str.ofString "=B5") 1099,
          Value.str (Str.ofString "=B6") 1103, Value.str (Str.ofString "=B7") 1107, Value.str (Str.ofString "=B8") 1111, Value.str (Str.ofString "=B9") 1115, Value.str (Str.ofString "=BA") 1119,
          Value.str (Str.ofString "=BB") 1123, Value.str (Str.ofString "=BC") 1127, Value.str (Str.ofString "=BD") 1131, Value.str (Str.ofString "=BE") 1135, Value.str (Str.ofString "=BF") 1139,
          Value.str (Str.ofString "=C0") 1143, Value.str (Str.ofString "=C1") 1147, Value.str (Str.ofString "=C2") 1151, Value.str (Str.ofString "=C3") 1155, Value.str (Str.ofString "=C4") 1159,
          Value.str (Str.ofString "=C5") 1163, Value.str (Str.ofString "=C6") 1167, Value.str (Str.ofString "=C7") 1171, Value.str (Str.ofString "=C8") 1175, Value.str (Str.ofString "=C9") 1179,
          Value.str (Str.ofString "=CA") 1183, Value.str (Str.ofString "=CB") 1187, Value.str (Str.ofString "=CC") 1191, Value.str (Str.ofString "=CD") 1195, Value.str (Str.ofString "=CE") 1199,
          Value.str (Str.ofString "=CF") 1203, Value.str (Str.ofString "=D0") 1207, Value.str (Str.ofString "=D1") 1211, Value.str (Str.ofString "=D2") 1215, Value.str (Str.ofString "=D3") 1219,
          Value.str (Str.ofString "=D4") 1223, Value.str (Str.ofString "=D5") 1227, Value.str (Str.ofString "=D6") 1231, Value.str (Str.ofString "=D7") 1235, Value.str (Str.ofString "=D8") 1239,
          Value.str (Str.ofString "=D9") 1243, Value.str (Str.ofString "=DA") 1247, Value.str (Str.ofString "=DB") 1251, Value.str (Str.ofString "=DC") 1255, Value.str (Str.ofString "=DD") 1259,
          Value.str (Str.ofString "=DE") 1263, Value.str (Str.ofString "=DF") 1267, Value.str (Str.ofString "=E0") 1271, Value.str (Str.ofString "=E1") 1275, Value.str (Str.ofString "=E2") 1279,
          Value.str (Str.ofString "=E3") 1283, Value.str (Str.ofString "=E4") 1287, Value.str (Str.ofString "=E5") 1291, Value.str (Str.ofString "=E6") 1295, Value.str (Str.ofString "=E7") 1299,
          Value.str (Str.ofString "=E8") 1303, Value.str (Str.ofString "=E9") 1307, Value.str (Str.ofString "=EA") 1311, Value.str (Str.ofString "=EB") 1315, Value.str (Str.ofString "=EC") 1319,
          Value.str (Str.ofString "=ED") 1323, Value.str (Str.ofString "=EE") 1327, Value.str (Str.ofString "=EF") 1331, Value.str (Str.ofString "=F0") 1335, Value.str (Str.ofString "=F1") 1339,
          Value.str (Str.ofString "=F2") 1343, Value.str (Str.ofString "=F3") 1347, Value.str (Str.ofString "=F4") 1351, Value.str (Str.ofString "=F5") 1355, Value.str (Str.ofString "=F6") 1359,
          Value.str (Str.ofString "=F7") 1363, Value.str (Str.ofString "=F8") 1367, Value.str (Str.ofString "=F9") 1371, Value.str (Str.ofString "=FA") 1375, Value.str (Str.ofString "=FB") 1379,
          Value.str (Str.ofString "=FC") 1383, Value.str (Str.ofString "=FD") 1387, Value.str (Str.ofString "=FE") 1391, Value.str (Str.ofString "=FF") 1395] }
noncomputable def ho157 : Params → Obj := fun P => { cls := Value.type "bytes_iterator", data := Data.fields #[Value.none, Value.int 2 0] }
noncomputable def ho158 : Params → Obj := fun P => { cls := Value.type "tuple", data := Data.seq #[] }
noncomputable def ho159 : Params → Obj := fun P => { cls := Value.type "StopIteration", data := Data.fields #[Value.ref 108, Value.none, Value.none, Value.none, Value.bool false, Value.none] }
noncomputable def ho160 : Params → Obj := fun P => { cls := Value.type "tuple", data := Data.seq #[] }
noncomputable def ho161 : Params → Obj := fun P => { cls := Value.none, data := Data.fields #[] }
noncomputable def ho162 : Params → Obj := fun P => { cls := Value.type "tuple", data := Data.seq #[Value.str (Str.ofString "match") 1934, Value.str (Str.ofString "s") 1935] }
noncomputable def ho163 : Params → Obj := fun P => { cls := Value.type "tuple", data := Data.seq #[] }
noncomputable def ho164 : Params → Obj := fun P =>
  { cls := Value.none,
    data := Data.func { name := Str.ofString "_unquote_match", qualname := Str.ofString "_unquote_match", params := fA7, body := fB7, scope := fS7, globals := 0, closure := [], defaults := Value.none, kwdefaults := Value.none } }
noncomputable def ho165 : Params → Obj := fun P =>
  { cls := Value.type "code",
    data :=
      Data.fields
        #[Value.str (Str.ofString "_unquote_match") 1931, Value.str (Str.ofString "_unquote_match") 1932, Value.str (Str.ofString "/claim/cut.py") 1933, Value.int 73 0, Value.int 1 0, Value.int 0 0, Value.int 0 0, Value.int 3 0,
          Value.ref 110, Value.bool true, Value.int 276 0, Value.ref 111, Value.none, Value.ref 112, Value.ref 113, Value.ref 114, Value.int 1936 0, Value.int 73 0, Value.str (Str.ofString "/claim/cut.py") 1937] }
noncomputable def ho166 : Params → Obj := fun P =>
  { cls := Value.type "function",
    data :=
      Data.func
        { name := Str.ofString "_unquote_match", qualname := Str.ofString "_unquote_match", params := fA7, body := fB7, scope := fS7, globals := 3, closure := [], defaults := Value.none, kwdefaults := Value.none,
          pyModule := Value.str (Str.ofString "cpy313.email.quoprimime") 1407, code := Value.ref 115 } }
noncomputable def ho167 : Params → Obj := fun P => { cls := Value.type "tuple", data := Data.seq #[] }
noncomputable def ho168 : Params → Obj := fun P => { cls := Value.none, data := Data.fields #[] }
noncomputable def ho169 : Params → Obj := fun P => { cls := Value.type "tuple", data := Data.seq #[Value.str (Str.ofString "s") 1942] }
noncomputable def ho170 : Params → Obj := fun P => { cls := Value.type "tuple", data := Data.seq #[] }
noncomputable def ho171 : Params → Obj := fun P =>
  { cls := Value.none,
    data := Data.func { name := Str.ofString "header_decode", qualname := Str.ofString "header_decode", params := fA8, body := fB8, scope := fS8, globals := 0, closure := [], defaults := Value.none, kwdefaults := Value.none } }
noncomputable def ho172 : Params → Obj := fun P =>
  { cls := Value.type "code",
    data :=
      Data.fields
        #[Value.str (Str.ofString "header_decode") 1939, Value.str (Str.ofString "header_decode") 1940, Value.str (Str.ofString "/claim/cut.py") 1941, Value.int 76 0, Value.int 1 0, Value.int 0 0, Value.int 0 0, Value.int 3 0,
          Value.ref 117, Value.bool true, Value.int 276 0, Value.ref 118, Value.none, Value.ref 119, Value.ref 120, Value.ref 121, Value.int 1943 0, Value.int 76 0, Value.str (Str.ofString "/claim/cut.py") 1944] }
noncomputable def ho173 : Params → Obj := fun P =>
  { cls := Value.type "function",
    data :=
      Data.func
        { name := Str.ofString "header_decode", qualname := Str.ofString "header_decode", params := fA8, body := fB8, scope := fS8, globals := 3, closure := [], defaults := Value.none, kwdefaults := Value.none,
          pyModule := Value.str (Str.ofString "cpy313.email.quoprimime") 1407, code := Value.ref 122 } }
noncomputable def ho174 : Params → Obj := fun P => { cls := Value.type "tuple", data := Data.seq #[] }
noncomputable def ho175 : Params → Obj := fun P => { cls := Value.none, data := Data.fields #[] }
noncomputable def ho176 : Params → Obj := fun P => { cls := Value.type "tuple", data := Data.seq #[Value.str (Str.ofString "mycmp") 1951, Value.str (Str.ofString "K") 1952] }
noncomputable def ho177 : Params → Obj := fun P => { cls := Value.type "tuple", data := Data.seq #[Value.str (Str.ofString "mycmp") 1953] }
noncomputable def ho178 : Params → Obj := fun P =>
  { cls := Value.none,
    data := Data.func { name := Str.ofString "cmp_to_key", qualname := Str.ofString "cmp_to_key", params := fA9, body := fB9, scope := fS9, globals := 0, closure := [], defaults := Value.none, kwdefaults := Value.none } }
noncomputable def ho179 : Params → Obj := fun P =>
  { cls := Value.type "code",
    data :=
      Data.fields
        #[Value.str (Str.ofString "cmp_to_key") 1948, Value.str (Str.ofString "cmp_to_key") 1949, Value.str (Str.ofString "/claim/cut.py") 1950, Value.int 80 0, Value.int 1 0, Value.int 0 0, Value.int 0 0, Value.int 3 0,
          Value.ref 124, Value.bool true, Value.int 276 0, Value.ref 125, Value.none, Value.ref 126, Value.ref 127, Value.ref 128, Value.int 1954 0, Value.int 80 0, Value.str (Str.ofString "/claim/cut.py") 1955] }
noncomputable def ho180 : Params → Obj := fun P =>
  { cls := Value.type "function",
    data :=
      Data.func
        { name := Str.ofString "cmp_to_key", qualname := Str.ofString "cmp_to_key", params := fA9, body := fB9, scope := fS9, globals := 3, closure := [], defaults := Value.none, kwdefaults := Value.none,
          pyModule := Value.str (Str.ofString "cpy313.functools") 1946, code := Value.ref 129 } }
noncomputable def ho181 : Params → Obj := fun P => { cls := Value.type "object" }
noncomputable def ho182 : Params → Obj := fun P => { cls := Value.type "tuple", data := Data.seq #[Value.ref 131] }
noncomputable def ho183 : Params → Obj := fun P => { cls := Value.type "tuple", data := Data.seq #[] }
noncomputable def ho184 : Params → Obj := fun P => { cls := Value.none, data := Data.fields #[] }
noncomputable def ho185 : Params → Obj := fun P =>
  { cls := Value.type "tuple",
    data :=
      Data.seq
        #[Value.str (Str.ofString "function") 1961, Value.str (Str.ofString "sequence") 1962, Value.str (Str.ofString "initial") 1963, Value.str (Str.ofString "it") 1964, Value.str (Str.ofString "value") 1965,
          Value.str (Str.ofString "element") 1966] }
noncomputable def ho186 : Params → Obj := fun P => { cls := Value.type "tuple", data := Data.seq #[] }
noncomputable def ho187 : Params → Obj := fun P =>
  { cls := Value.none,
    data := Data.func { name := Str.ofString "reduce", qualname := Str.ofString "reduce", params := fA10, body := fB10, scope := fS10, globals := 0, closure := [], defaults := Value.none, kwdefaults := Value.none } }
noncomputable def ho188 : Params → Obj := fun P =>
  { cls := Value.type "code",
    data :=
      Data.fields
        #[Value.str (Str.ofString "reduce") 1958, Value.str (Str.ofString "reduce") 1959, Value.str (Str.ofString "/claim/cut.py") 1960, Value.int 106 0, Value.int 3 0, Value.int 0 0, Value.int 0 0, Value.int 3 0, Value.ref 133,
          Value.bool true, Value.int 276 0, Value.ref 134, Value.none, Value.ref 135, Value.ref 136, Value.ref 137, Value.int 1967 0, Value.int 106 0, Value.str (Str.ofString "/claim/cut.py") 1968] }
noncomputable def ho189 : Params → Obj := fun P =>
  { cls := Value.type "function",
    data :=
      Data.func
        { name := Str.ofString "reduce", qualname := Str.ofString "reduce", params := fA10, body := fB10, scope := fS10, globals := 3, closure := [], defaults := Value.ref 132, kwdefaults := Value.none,
          pyModule := Value.str (Str.ofString "cpy313.functools") 1946, code := Value.ref 138 } }
noncomputable def ho190 : Params → Obj := fun P => { cls := Value.type "tuple", data := Data.seq #[] }
noncomputable def ho191 : Params → Obj := fun P => { cls := Value.none, data := Data.fields #[] }
noncomputable def ho192 : Params → Obj := fun P => { cls := Value.type "tuple", data := Data.seq #[Value.str (Str.ofString "a") 1975, Value.str (Str.ofString "b") 1976] }
noncomputable def ho193 : Params → Obj := fun P => { cls := Value.type "tuple", data := Data.seq #[] }
noncomputable def ho194 : Params → Obj := fun P =>
  { cls := Value.none,
    data := Data.func { name := Str.ofString "_law_compare", qualname := Str.ofString "_law_compare", params := fA11, body := fB11, scope := fS11, globals := 0, closure := [], defaults := Value.none, kwdefaults := Value.none } }
noncomputable def ho195 : Params → Obj := fun P =>
  { cls := Value.type "code",
    data :=
      Data.fields
        #[Value.str (Str.ofString "_law_compare") 1972, Value.str (Str.ofString "_law_compare") 1973, Value.str (Str.ofString "/claim/cut.py") 1974, Value.int 119 0, Value.int 2 0, Value.int 0 0, Value.int 0 0, Value.int 3 0,
          Value.ref 140, Value.bool true, Value.int 276 0, Value.ref 141, Value.none, Value.ref 142, Value.ref 143, Value.ref 144, Value.int 1977 0, Value.int 119 0, Value.str (Str.ofString "/claim/cut.py") 1978] }
noncomputable def ho196 : Params → Obj := fun P =>
  { cls := Value.type "function",
    data :=
      Data.func
        { name := Str.ofString "_law_compare", qualname := Str.ofString "_law_compare", params := fA11, body := fB11, scope := fS11, globals := 3, closure := [], defaults := Value.none, kwdefaults := Value.none,
          pyModule := Value.str (Str.ofString "law_il0164_01") 1970, code := Value.ref 145 } }
noncomputable def ho197 : Params → Obj := fun P => { cls := Value.type "tuple", data := Data.seq #[] }
noncomputable def ho198 : Params → Obj := fun P => { cls := Value.none, data := Data.fields #[] }
noncomputable def ho199 : Params → Obj := fun P => { cls := Value.type "tuple", data := Data.seq #[Value.str (Str.ofString "parts") 1983, Value.str (Str.ofString "grown") 1984] }
noncomputable def ho200 : Params → Obj := fun P => { cls := Value.type "tuple", data := Data.seq #[Value.str (Str.ofString "parts") 1985, Value.str (Str.ofString "comparer") 1986] }
noncomputable def ho201 : Params → Obj := fun P =>
  { cls := Value.none,
    data := Data.func { name := Str.ofString "_law_best", qualname := Str.ofString "_law_best", params := fA12, body := fB12, scope := fS12, globals := 0, closure := [], defaults := Value.none, kwdefaults := Value.none } }
noncomputable def ho202 : Params → Obj := fun P =>
  { cls := Value.type "code",
    data :=
      Data.fields
        #[Value.str (Str.ofString "_law_best") 1980, Value.str (Str.ofString "_law_best") 1981, Value.str (Str.ofString "/claim/cut.py") 1982, Value.int 123 0, Value.int 1 0, Value.int 0 0, Value.int 0 0, Value.int 3 0,
          Value.ref 147, Value.bool true, Value.int 276 0, Value.ref 148, Value.none, Value.ref 149, Value.ref 150, Value.ref 151, Value.int 1987 0, Value.int 123 0, Value.str (Str.ofString "/claim/cut.py") 1988] }
noncomputable def ho203 : Params → Obj := fun P =>
  { cls := Value.type "function",
    data :=
      Data.func
        { name := Str.ofString "_law_best", qualname := Str.ofString "_law_best", params := fA12, body := fB12, scope := fS12, globals := 3, closure := [], defaults := Value.none, kwdefaults := Value.none,
          pyModule := Value.str (Str.ofString "law_il0164_01") 1970, code := Value.ref 152 } }
noncomputable def ho204 : Params → Obj := fun P => { cls := Value.type "tuple", data := Data.seq #[] }
noncomputable def ho205 : Params → Obj := fun P => { cls := Value.none, data := Data.fields #[] }
noncomputable def ho206 : Params → Obj := fun P =>
  { cls := Value.none,
    data := Data.func { name := Str.ofString "_law_lengths", qualname := Str.ofString "_law_lengths", params := fA13, body := fB13, scope := fS13, globals := 0, closure := [], defaults := Value.none, kwdefaults := Value.none } }
noncomputable def ho207 : Params → Obj := fun P =>
  { cls := Value.type "code",
    data :=
      Data.fields
        #[Value.str (Str.ofString "_law_lengths") 1990, Value.str (Str.ofString "_law_lengths") 1991, Value.str (Str.ofString "/claim/cut.py") 1992, Value.int 135 0, Value.int 2 0, Value.int 0 0, Value.int 0 0, Value.int 3 0,
          Value.ref 154, Value.bool true, Value.int 276 0, Value.ref 155, Value.none, Value.none, Value.none, Value.ref 156, Value.int 1993 0, Value.int 135 0, Value.str (Str.ofString "/claim/cut.py") 1994] }
noncomputable def ho208 : Params → Obj := fun P =>
  { cls := Value.type "function",
    data :=
      Data.func
        { name := Str.ofString "_law_lengths", qualname := Str.ofString "_law_lengths", params := fA13, body := fB13, scope := fS13, globals := 3, closure := [], defaults := Value.none, kwdefaults := Value.none,
          pyModule := Value.str (Str.ofString "law_il0164_01") 1970, code := Value.ref 157 } }
noncomputable def ho209 : Params → Obj := fun P => { cls := Value.type "tuple", data := Data.seq #[] }
noncomputable def ho210 : Params → Obj := fun P => { cls := Value.none, data := Data.fields #[] }
noncomputable def ho211 : Params → Obj := fun P =>
  { cls := Value.type "tuple",
    data :=
      Data.seq
        #[Value.str (Str.ofString "signs") 1999, Value.str (Str.ofString "letters") 2000, Value.str (Str.ofString "octets") 2001, Value.str (Str.ofString "place") 2002, Value.str (Str.ofString "whole") 2003,
          Value.str (Str.ofString "sign") 2004] }
noncomputable def ho212 : Params → Obj := fun P => { cls := Value.type "tuple", data := Data.seq #[] }
noncomputable def ho213 : Params → Obj := fun P =>
  { cls := Value.none,
    data := Data.func { name := Str.ofString "_law_threes", qualname := Str.ofString "_law_threes", params := fA14, body := fB14, scope := fS14, globals := 0, closure := [], defaults := Value.none, kwdefaults := Value.none } }
noncomputable def ho214 : Params → Obj := fun P =>
  { cls := Value.type "code",
    data :=
      Data.fields
        #[Value.str (Str.ofString "_law_threes") 1996, Value.str (Str.ofString "_law_threes") 1997, Value.str (Str.ofString "/claim/cut.py") 1998, Value.int 148 0, Value.int 1 0, Value.int 0 0, Value.int 0 0, Value.int 3 0,
          Value.ref 159, Value.bool true, Value.int 276 0, Value.ref 160, Value.none, Value.ref 161, Value.ref 162, Value.ref 163, Value.int 2005 0, Value.int 148 0, Value.str (Str.ofString "/claim/cut.py") 2006] }
noncomputable def ho215 : Params → Obj := fun P =>
  { cls := Value.type "function",
    data :=
      Data.func
        { name := Str.ofString "_law_threes", qualname := Str.ofString "_law_threes", params := fA14, body := fB14, scope := fS14, globals := 3, closure := [], defaults := Value.none, kwdefaults := Value.none,
          pyModule := Value.str (Str.ofString "law_il0164_01") 1970, code := Value.ref 164 } }
noncomputable def ho216 : Params → Obj := fun P => { cls := Value.type "tuple", data := Data.seq #[] }
noncomputable def ho217 : Params → Obj := fun P => { cls := Value.none, data := Data.fields #[] }
noncomputable def ho218 : Params → Obj := fun P =>
  { cls := Value.none,
    data := Data.func { name := Str.ofString "_law_read", qualname := Str.ofString "_law_read", params := fA15, body := fB15, scope := fS15, globals := 0, closure := [], defaults := Value.none, kwdefaults := Value.none } }
noncomputable def ho219 : Params → Obj := fun P =>
  { cls := Value.type "code",
    data :=
      Data.fields
        #[Value.str (Str.ofString "_law_read") 2008, Value.str (Str.ofString "_law_read") 2009, Value.str (Str.ofString "/claim/cut.py") 2010, Value.int 157 0, Value.int 1 0, Value.int 0 0, Value.int 0 0, Value.int 3 0,
          Value.ref 166, Value.bool true, Value.int 276 0, Value.ref 167, Value.none, Value.none, Value.none, Value.ref 168, Value.int 2011 0, Value.int 157 0, Value.str (Str.ofString "/claim/cut.py") 2012] }
noncomputable def ho220 : Params → Obj := fun P =>
  { cls := Value.type "function",
    data :=
      Data.func
        { name := Str.ofString "_law_read", qualname := Str.ofString "_law_read", params := fA15, body := fB15, scope := fS15, globals := 3, closure := [], defaults := Value.none, kwdefaults := Value.none,
          pyModule := Value.str (Str.ofString "law_il0164_01") 1970, code := Value.ref 169 } }
noncomputable def ho221 : Params → Obj := fun P => { cls := Value.type "tuple", data := Data.seq #[] }
noncomputable def ho222 : Params → Obj := fun P => { cls := Value.none, data := Data.fields #[] }
noncomputable def ho223 : Params → Obj := fun P =>
  { cls := Value.none, data := Data.func { name := Str.ofString "law", qualname := Str.ofString "law", params := fA16, body := fB16, scope := fS16, globals := 0, closure := [], defaults := Value.none, kwdefaults := Value.none } }
noncomputable def ho224 : Params → Obj := fun P =>
  { cls := Value.type "code",
    data :=
      Data.fields
        #[Value.str (Str.ofString "law") 2014, Value.str (Str.ofString "law") 2015, Value.str (Str.ofString "/claim/cut.py") 2016, Value.int 165 0, Value.int 1 0, Value.int 0 0, Value.int 0 0, Value.int 3 0, Value.ref 171,
          Value.bool true, Value.int 276 0, Value.ref 172, Value.none, Value.none, Value.none, Value.ref 173, Value.int 2017 0, Value.int 165 0, Value.str (Str.ofString "/claim/cut.py") 2018] }
noncomputable def ho225 : Params → Obj := fun P =>
  { cls := Value.type "function",
    data :=
      Data.func
        { name := Str.ofString "law", qualname := Str.ofString "law", params := fA16, body := fB16, scope := fS16, globals := 3, closure := [], defaults := Value.none, kwdefaults := Value.none,
          pyModule := Value.str (Str.ofString "law_il0164_01") 1970, code := Value.ref 174 } }
noncomputable def hh68 : Params → Heap := fun P =>
  {
    objs :=
      {
        toList :=
          [ho41 P, ho42 P, ho43 P, ho44 P, ho45 P, ho46 P, ho47 P, ho48 P, ho49 P, ho50 P, ho51 P, ho52 P,
            ho53 P, ho54 P, ho55 P, ho56 P, ho57 P, ho58 P, ho59 P, ho60 P, ho61 P, ho62 P, ho63 P, ho64 P,
            ho65 P, ho66 P, ho67 P, ho68 P] } }
noncomputable def hh72 : Params → Heap := fun P =>
  {
    objs :=
      {
        toList :=
          [ho41 P, ho42 P, ho43 P, ho44 P, ho45 P, ho46 P, ho47 P, ho48 P, ho49 P, ho50 P, ho51 P, ho52 P,
            ho53 P, ho54 P, ho55 P, ho56 P, ho57 P, ho58 P, ho59 P, ho60 P, ho61 P, ho62 P, ho63 P, ho64 P,
            ho65 P, ho66 P, ho67 P, ho68 P, ho69 P, ho70 P, ho71 P, ho72 P] } }
noncomputable def ht72 : Params → BT := fun P =>
  BT.node (ho41 P)
    (BT.node (ho42 P)
      (BT.node (ho44 P) (BT.node (ho48 P) (BT.node (ho56 P) (BT.node (ho72 P) BT.nil BT.nil) BT.nil) (BT.node (ho64 P) BT.nil BT.nil))
        (BT.node (ho52 P) (BT.node (ho60 P) BT.nil BT.nil) (BT.node (ho68 P) BT.nil BT.nil)))
      (BT.node (ho46 P) (BT.node (ho50 P) (BT.node (ho58 P) BT.nil BT.nil) (BT.node (ho66 P) BT.nil BT.nil))
        (BT.node (ho54 P) (BT.node (ho62 P) BT.nil BT.nil) (BT.node (ho70 P) BT.nil BT.nil))))
    (BT.node (ho43 P)
      (BT.node (ho45 P) (BT.node (ho49 P) (BT.node (ho57 P) BT.nil BT.nil) (BT.node (ho65 P) BT.nil BT.nil))
        (BT.node (ho53 P) (BT.node (ho61 P) BT.nil BT.nil) (BT.node (ho69 P) BT.nil BT.nil)))
      (BT.node (ho47 P) (BT.node (ho51 P) (BT.node (ho59 P) BT.nil BT.nil) (BT.node (ho67 P) BT.nil BT.nil))
        (BT.node (ho55 P) (BT.node (ho63 P) BT.nil BT.nil) (BT.node (ho71 P) BT.nil BT.nil))))
noncomputable def ht116 : Params → BT := fun P =>
  BT.node (ho41 P)
    (BT.node (ho42 P)
      (BT.node (ho73 P)
        (BT.node (ho48 P) (BT.node (ho56 P) (BT.node (ho72 P) (BT.node (ho106 P) BT.nil BT.nil) BT.nil) (BT.node (ho90 P) BT.nil BT.nil))
          (BT.node (ho64 P) (BT.node (ho82 P) (BT.node (ho114 P) BT.nil BT.nil) BT.nil) (BT.node (ho98 P) BT.nil BT.nil)))
        (BT.node (ho52 P) (BT.node (ho60 P) (BT.node (ho78 P) (BT.node (ho110 P) BT.nil BT.nil) BT.nil) (BT.node (ho94 P) BT.nil BT.nil))
          (BT.node (ho68 P) (BT.node (ho86 P) BT.nil BT.nil) (BT.node (ho102 P) BT.nil BT.nil))))
      (BT.node (ho46 P)
        (BT.node (ho50 P) (BT.node (ho58 P) (BT.node (ho76 P) (BT.node (ho108 P) BT.nil BT.nil) BT.nil) (BT.node (ho92 P) BT.nil BT.nil))
          (BT.node (ho66 P) (BT.node (ho84 P) (BT.node (ho116 P) BT.nil BT.nil) BT.nil) (BT.node (ho100 P) BT.nil BT.nil)))
        (BT.node (ho54 P) (BT.node (ho62 P) (BT.node (ho80 P) (BT.node (ho112 P) BT.nil BT.nil) BT.nil) (BT.node (ho96 P) BT.nil BT.nil))
          (BT.node (ho74 P) (BT.node (ho88 P) BT.nil BT.nil) (BT.node (ho104 P) BT.nil BT.nil)))))
    (BT.node (ho43 P)
      (BT.node (ho45 P)
        (BT.node (ho49 P) (BT.node (ho57 P) (BT.node (ho75 P) (BT.node (ho107 P) BT.nil BT.nil) BT.nil) (BT.node (ho91 P) BT.nil BT.nil))
          (BT.node (ho65 P) (BT.node (ho83 P) (BT.node (ho115 P) BT.nil BT.nil) BT.nil) (BT.node (ho99 P) BT.nil BT.nil)))
        (BT.node (ho53 P) (BT.node (ho61 P) (BT.node (ho79 P) (BT.node (ho111 P) BT.nil BT.nil) BT.nil) (BT.node (ho95 P) BT.nil BT.nil))
          (BT.node (ho69 P) (BT.node (ho87 P) BT.nil BT.nil) (BT.node (ho103 P) BT.nil BT.nil))))
      (BT.node (ho47 P)
        (BT.node (ho51 P) (BT.node (ho59 P) (BT.node (ho77 P) (BT.node (ho109 P) BT.nil BT.nil) BT.nil) (BT.node (ho93 P) BT.nil BT.nil))
          (BT.node (ho67 P) (BT.node (ho85 P) BT.nil BT.nil) (BT.node (ho101 P) BT.nil BT.nil)))
        (BT.node (ho55 P) (BT.node (ho63 P) (BT.node (ho81 P) (BT.node (ho113 P) BT.nil BT.nil) BT.nil) (BT.node (ho97 P) BT.nil BT.nil))
          (BT.node (ho71 P) (BT.node (ho89 P) BT.nil BT.nil) (BT.node (ho105 P) BT.nil BT.nil)))))
noncomputable def ht123 : Params → BT := fun P =>
  BT.node (ho41 P)
    (BT.node (ho42 P)
      (BT.node (ho117 P)
        (BT.node (ho48 P) (BT.node (ho56 P) (BT.node (ho72 P) (BT.node (ho106 P) BT.nil BT.nil) BT.nil) (BT.node (ho90 P) (BT.node (ho123 P) BT.nil BT.nil) BT.nil))
          (BT.node (ho64 P) (BT.node (ho82 P) (BT.node (ho114 P) BT.nil BT.nil) BT.nil) (BT.node (ho98 P) BT.nil BT.nil)))
        (BT.node (ho52 P) (BT.node (ho60 P) (BT.node (ho78 P) (BT.node (ho110 P) BT.nil BT.nil) BT.nil) (BT.node (ho94 P) BT.nil BT.nil))
          (BT.node (ho68 P) (BT.node (ho86 P) (BT.node (ho119 P) BT.nil BT.nil) BT.nil) (BT.node (ho102 P) BT.nil BT.nil))))
      (BT.node (ho46 P)
        (BT.node (ho50 P) (BT.node (ho58 P) (BT.node (ho76 P) (BT.node (ho108 P) BT.nil BT.nil) BT.nil) (BT.node (ho92 P) BT.nil BT.nil))
          (BT.node (ho66 P) (BT.node (ho84 P) (BT.node (ho116 P) BT.nil BT.nil) BT.nil) (BT.node (ho100 P) BT.nil BT.nil)))
        (BT.node (ho54 P) (BT.node (ho62 P) (BT.node (ho80 P) (BT.node (ho112 P) BT.nil BT.nil) BT.nil) (BT.node (ho96 P) BT.nil BT.nil))
          (BT.node (ho74 P) (BT.node (ho88 P) (BT.node (ho121 P) BT.nil BT.nil) BT.nil) (BT.node (ho104 P) BT.nil BT.nil)))))
    (BT.node (ho43 P)
      (BT.node (ho45 P)
        (BT.node (ho49 P) (BT.node (ho57 P) (BT.node (ho75 P) (BT.node (ho107 P) BT.nil BT.nil) BT.nil) (BT.node (ho91 P) BT.nil BT.nil))
          (BT.node (ho65 P) (BT.node (ho83 P) (BT.node (ho115 P) BT.nil BT.nil) BT.nil) (BT.node (ho99 P) BT.nil BT.nil)))
        (BT.node (ho53 P) (BT.node (ho61 P) (BT.node (ho79 P) (BT.node (ho111 P) BT.nil BT.nil) BT.nil) (BT.node (ho95 P) BT.nil BT.nil))
          (BT.node (ho69 P) (BT.node (ho87 P) (BT.node (ho120 P) BT.nil BT.nil) BT.nil) (BT.node (ho103 P) BT.nil BT.nil))))
      (BT.node (ho47 P)
        (BT.node (ho51 P) (BT.node (ho59 P) (BT.node (ho77 P) (BT.node (ho109 P) BT.nil BT.nil) BT.nil) (BT.node (ho93 P) BT.nil BT.nil))
          (BT.node (ho67 P) (BT.node (ho85 P) (BT.node (ho118 P) BT.nil BT.nil) BT.nil) (BT.node (ho101 P) BT.nil BT.nil)))
        (BT.node (ho55 P) (BT.node (ho63 P) (BT.node (ho81 P) (BT.node (ho113 P) BT.nil BT.nil) BT.nil) (BT.node (ho97 P) BT.nil BT.nil))
          (BT.node (ho71 P) (BT.node (ho89 P) (BT.node (ho122 P) BT.nil BT.nil) BT.nil) (BT.node (ho105 P) BT.nil BT.nil)))))
noncomputable def ht133 : Params → BT := fun P =>
  BT.node (ho41 P)
    (BT.node (ho42 P)
      (BT.node (ho126 P)
        (BT.node (ho48 P) (BT.node (ho56 P) (BT.node (ho72 P) (BT.node (ho106 P) BT.nil BT.nil) BT.nil) (BT.node (ho90 P) (BT.node (ho123 P) BT.nil BT.nil) BT.nil))
          (BT.node (ho64 P) (BT.node (ho82 P) (BT.node (ho114 P) BT.nil BT.nil) BT.nil) (BT.node (ho98 P) BT.nil BT.nil)))
        (BT.node (ho52 P) (BT.node (ho60 P) (BT.node (ho78 P) (BT.node (ho110 P) BT.nil BT.nil) BT.nil) (BT.node (ho94 P) (BT.node (ho130 P) BT.nil BT.nil) BT.nil))
          (BT.node (ho68 P) (BT.node (ho86 P) (BT.node (ho119 P) BT.nil BT.nil) BT.nil) (BT.node (ho102 P) BT.nil BT.nil))))
      (BT.node (ho46 P)
        (BT.node (ho50 P) (BT.node (ho58 P) (BT.node (ho76 P) (BT.node (ho108 P) BT.nil BT.nil) BT.nil) (BT.node (ho92 P) (BT.node (ho128 P) BT.nil BT.nil) BT.nil))
          (BT.node (ho66 P) (BT.node (ho84 P) (BT.node (ho116 P) BT.nil BT.nil) BT.nil) (BT.node (ho100 P) BT.nil BT.nil)))
        (BT.node (ho54 P) (BT.node (ho62 P) (BT.node (ho80 P) (BT.node (ho112 P) BT.nil BT.nil) BT.nil) (BT.node (ho96 P) (BT.node (ho132 P) BT.nil BT.nil) BT.nil))
          (BT.node (ho74 P) (BT.node (ho88 P) (BT.node (ho121 P) BT.nil BT.nil) BT.nil) (BT.node (ho104 P) BT.nil BT.nil)))))
    (BT.node (ho43 P)
      (BT.node (ho45 P)
        (BT.node (ho49 P) (BT.node (ho57 P) (BT.node (ho75 P) (BT.node (ho107 P) BT.nil BT.nil) BT.nil) (BT.node (ho91 P) (BT.node (ho127 P) BT.nil BT.nil) BT.nil))
          (BT.node (ho65 P) (BT.node (ho83 P) (BT.node (ho115 P) BT.nil BT.nil) BT.nil) (BT.node (ho99 P) BT.nil BT.nil)))
        (BT.node (ho53 P) (BT.node (ho61 P) (BT.node (ho79 P) (BT.node (ho111 P) BT.nil BT.nil) BT.nil) (BT.node (ho95 P) (BT.node (ho131 P) BT.nil BT.nil) BT.nil))
          (BT.node (ho69 P) (BT.node (ho87 P) (BT.node (ho120 P) BT.nil BT.nil) BT.nil) (BT.node (ho103 P) BT.nil BT.nil))))
      (BT.node (ho47 P)
        (BT.node (ho51 P) (BT.node (ho59 P) (BT.node (ho77 P) (BT.node (ho109 P) BT.nil BT.nil) BT.nil) (BT.node (ho93 P) (BT.node (ho129 P) BT.nil BT.nil) BT.nil))
          (BT.node (ho67 P) (BT.node (ho85 P) (BT.node (ho118 P) BT.nil BT.nil) BT.nil) (BT.node (ho101 P) BT.nil BT.nil)))
        (BT.node (ho55 P) (BT.node (ho63 P) (BT.node (ho81 P) (BT.node (ho113 P) BT.nil BT.nil) BT.nil) (BT.node (ho97 P) (BT.node (ho133 P) BT.nil BT.nil) BT.nil))
          (BT.node (ho71 P) (BT.node (ho89 P) (BT.node (ho122 P) BT.nil BT.nil) BT.nil) (BT.node (ho105 P) BT.nil BT.nil)))))
noncomputable def ht225 : Params → BT := fun P =>
  BT.node (ho41 P)
    (BT.node (ho42 P)
      (BT.node (ho134 P)
        (BT.node (ho48 P)
          (BT.node (ho56 P) (BT.node (ho72 P) (BT.node (ho106 P) (BT.node (ho177 P) BT.nil BT.nil) BT.nil) (BT.node (ho145 P) (BT.node (ho209 P) BT.nil BT.nil) BT.nil))
            (BT.node (ho90 P) (BT.node (ho123 P) (BT.node (ho193 P) BT.nil BT.nil) BT.nil) (BT.node (ho161 P) (BT.node (ho225 P) BT.nil BT.nil) BT.nil)))
          (BT.node (ho64 P) (BT.node (ho82 P) (BT.node (ho114 P) (BT.node (ho185 P) BT.nil BT.nil) BT.nil) (BT.node (ho153 P) (BT.node (ho217 P) BT.nil BT.nil) BT.nil))
            (BT.node (ho98 P) (BT.node (ho137 P) (BT.node (ho201 P) BT.nil BT.nil) BT.nil) (BT.node (ho169 P) BT.nil BT.nil))))
        (BT.node (ho52 P)
          (BT.node (ho60 P) (BT.node (ho78 P) (BT.node (ho110 P) (BT.node (ho181 P) BT.nil BT.nil) BT.nil) (BT.node (ho149 P) (BT.node (ho213 P) BT.nil BT.nil) BT.nil))
            (BT.node (ho94 P) (BT.node (ho136 P) (BT.node (ho197 P) BT.nil BT.nil) BT.nil) (BT.node (ho165 P) BT.nil BT.nil)))
          (BT.node (ho68 P) (BT.node (ho86 P) (BT.node (ho119 P) (BT.node (ho189 P) BT.nil BT.nil) BT.nil) (BT.node (ho157 P) (BT.node (ho221 P) BT.nil BT.nil) BT.nil))
            (BT.node (ho102 P) (BT.node (ho141 P) (BT.node (ho205 P) BT.nil BT.nil) BT.nil) (BT.node (ho173 P) BT.nil BT.nil)))))
      (BT.node (ho46 P)
        (BT.node (ho50 P)
          (BT.node (ho58 P) (BT.node (ho76 P) (BT.node (ho108 P) (BT.node (ho179 P) BT.nil BT.nil) BT.nil) (BT.node (ho147 P) (BT.node (ho211 P) BT.nil BT.nil) BT.nil))
            (BT.node (ho92 P) (BT.node (ho128 P) (BT.node (ho195 P) BT.nil BT.nil) BT.nil) (BT.node (ho163 P) BT.nil BT.nil)))
          (BT.node (ho66 P) (BT.node (ho84 P) (BT.node (ho116 P) (BT.node (ho187 P) BT.nil BT.nil) BT.nil) (BT.node (ho155 P) (BT.node (ho219 P) BT.nil BT.nil) BT.nil))
            (BT.node (ho100 P) (BT.node (ho139 P) (BT.node (ho203 P) BT.nil BT.nil) BT.nil) (BT.node (ho171 P) BT.nil BT.nil))))
        (BT.node (ho54 P)
          (BT.node (ho62 P) (BT.node (ho80 P) (BT.node (ho112 P) (BT.node (ho183 P) BT.nil BT.nil) BT.nil) (BT.node (ho151 P) (BT.node (ho215 P) BT.nil BT.nil) BT.nil))
            (BT.node (ho96 P) (BT.node (ho132 P) (BT.node (ho199 P) BT.nil BT.nil) BT.nil) (BT.node (ho167 P) BT.nil BT.nil)))
          (BT.node (ho135 P) (BT.node (ho88 P) (BT.node (ho121 P) (BT.node (ho191 P) BT.nil BT.nil) BT.nil) (BT.node (ho159 P) (BT.node (ho223 P) BT.nil BT.nil) BT.nil))
            (BT.node (ho104 P) (BT.node (ho143 P) (BT.node (ho207 P) BT.nil BT.nil) BT.nil) (BT.node (ho175 P) BT.nil BT.nil))))))
    (BT.node (ho43 P)
      (BT.node (ho45 P)
        (BT.node (ho49 P)
          (BT.node (ho57 P) (BT.node (ho75 P) (BT.node (ho107 P) (BT.node (ho178 P) BT.nil BT.nil) BT.nil) (BT.node (ho146 P) (BT.node (ho210 P) BT.nil BT.nil) BT.nil))
            (BT.node (ho91 P) (BT.node (ho127 P) (BT.node (ho194 P) BT.nil BT.nil) BT.nil) (BT.node (ho162 P) BT.nil BT.nil)))
          (BT.node (ho65 P) (BT.node (ho83 P) (BT.node (ho115 P) (BT.node (ho186 P) BT.nil BT.nil) BT.nil) (BT.node (ho154 P) (BT.node (ho218 P) BT.nil BT.nil) BT.nil))
            (BT.node (ho99 P) (BT.node (ho138 P) (BT.node (ho202 P) BT.nil BT.nil) BT.nil) (BT.node (ho170 P) BT.nil BT.nil))))
        (BT.node (ho53 P)
          (BT.node (ho61 P) (BT.node (ho79 P) (BT.node (ho111 P) (BT.node (ho182 P) BT.nil BT.nil) BT.nil) (BT.node (ho150 P) (BT.node (ho214 P) BT.nil BT.nil) BT.nil))
            (BT.node (ho95 P) (BT.node (ho131 P) (BT.node (ho198 P) BT.nil BT.nil) BT.nil) (BT.node (ho166 P) BT.nil BT.nil)))
          (BT.node (ho69 P) (BT.node (ho87 P) (BT.node (ho120 P) (BT.node (ho190 P) BT.nil BT.nil) BT.nil) (BT.node (ho158 P) (BT.node (ho222 P) BT.nil BT.nil) BT.nil))
            (BT.node (ho103 P) (BT.node (ho142 P) (BT.node (ho206 P) BT.nil BT.nil) BT.nil) (BT.node (ho174 P) BT.nil BT.nil)))))
      (BT.node (ho47 P)
        (BT.node (ho51 P)
          (BT.node (ho59 P) (BT.node (ho77 P) (BT.node (ho109 P) (BT.node (ho180 P) BT.nil BT.nil) BT.nil) (BT.node (ho148 P) (BT.node (ho212 P) BT.nil BT.nil) BT.nil))
            (BT.node (ho93 P) (BT.node (ho129 P) (BT.node (ho196 P) BT.nil BT.nil) BT.nil) (BT.node (ho164 P) BT.nil BT.nil)))
          (BT.node (ho67 P) (BT.node (ho85 P) (BT.node (ho118 P) (BT.node (ho188 P) BT.nil BT.nil) BT.nil) (BT.node (ho156 P) (BT.node (ho220 P) BT.nil BT.nil) BT.nil))
            (BT.node (ho101 P) (BT.node (ho140 P) (BT.node (ho204 P) BT.nil BT.nil) BT.nil) (BT.node (ho172 P) BT.nil BT.nil))))
        (BT.node (ho55 P)
          (BT.node (ho63 P) (BT.node (ho81 P) (BT.node (ho113 P) (BT.node (ho184 P) BT.nil BT.nil) BT.nil) (BT.node (ho152 P) (BT.node (ho216 P) BT.nil BT.nil) BT.nil))
            (BT.node (ho97 P) (BT.node (ho133 P) (BT.node (ho200 P) BT.nil BT.nil) BT.nil) (BT.node (ho168 P) BT.nil BT.nil)))
          (BT.node (ho71 P) (BT.node (ho89 P) (BT.node (ho122 P) (BT.node (ho192 P) BT.nil BT.nil) BT.nil) (BT.node (ho160 P) (BT.node (ho224 P) BT.nil BT.nil) BT.nil))
            (BT.node (ho105 P) (BT.node (ho144 P) (BT.node (ho208 P) BT.nil BT.nil) BT.nil) (BT.node (ho176 P) BT.nil BT.nil))))))
noncomputable def hh226 : Params → Heap := fun P =>
  {
    objs :=
      {
        toList :=
          [ho41 P, ho42 P, ho43 P, ho134 P, ho45 P, ho46 P, ho47 P, ho48 P, ho49 P, ho50 P, ho51 P, ho52 P,
            ho53 P, ho54 P, ho55 P, ho56 P, ho57 P, ho58 P, ho59 P, ho60 P, ho61 P, ho62 P, ho63 P, ho64 P,
            ho65 P, ho66 P, ho67 P, ho68 P, ho69 P, ho135 P, ho71 P, ho72 P, ho75 P, ho76 P, ho77 P, ho78 P,
            ho79 P, ho80 P, ho81 P, ho82 P, ho83 P, ho84 P, ho85 P, ho86 P, ho87 P, ho88 P, ho89 P, ho90 P,
            ho91 P, ho92 P, ho93 P, ho94 P, ho95 P, ho96 P, ho97 P, ho98 P, ho99 P, ho100 P, ho101 P, ho102 P,
            ho103 P, ho104 P, ho105 P, ho106 P, ho107 P, ho108 P, ho109 P, ho110 P, ho111 P, ho112 P, ho113 P, ho114 P,
            ho115 P, ho116 P, ho118 P, ho119 P, ho120 P, ho121 P, ho122 P, ho123 P, ho127 P, ho128 P, ho129 P, ho136 P,
            ho131 P, ho132 P, ho133 P, ho137 P, ho138 P, ho139 P, ho140 P, ho141 P, ho142 P, ho143 P, ho144 P, ho145 P,
            ho146 P, ho147 P, ho148 P, ho149 P, ho150 P, ho151 P, ho152 P, ho153 P, ho154 P, ho155 P, ho156 P, ho157 P,
            ho158 P, ho159 P, ho160 P, ho161 P, ho162 P, ho163 P, ho164 P, ho165 P, ho166 P, ho167 P, ho168 P, ho169 P,
            ho170 P, ho171 P, ho172 P, ho173 P, ho174 P, ho175 P, ho176 P, ho177 P, ho178 P, ho179 P, ho180 P, ho181 P,
            ho182 P, ho183 P, ho184 P, ho185 P, ho186 P, ho187 P, ho188 P, ho189 P, ho190 P, ho191 P, ho192 P, ho193 P,
            ho194 P, ho195 P, ho196 P, ho197 P, ho198 P, ho199 P, ho200 P, ho201 P, ho202 P, ho203 P, ho204 P, ho205 P,
            ho206 P, ho207 P, ho208 P, ho209 P, ho210 P, ho211 P, ho212 P, ho213 P, ho214 P, ho215 P, ho216 P, ho217 P,
            ho218 P, ho219 P, ho220 P, ho221 P, ho222 P, ho223 P, ho224 P, ho225 P] } }

noncomputable def kA0 : Arguments := (fun (N : Str) (A : Arguments) (L : List Stmt) (D : List PySem.Expr) (R : Option PySem.Expr) (T : List TypeParam) (S : PySem.Scope) (U : Option PySem.Scope) (V : Str) (P : Pos) (_ : prg.main.body[1]? = some (.FunctionDef N A L D R T S U V P)) => A) _ _ _ _ _ _ _ _ _ _ rfl
noncomputable def kL0 : List Stmt := (fun (N : Str) (A : Arguments) (L : List Stmt) (D : List PySem.Expr) (R : Option PySem.Expr) (T : List TypeParam) (S : PySem.Scope) (U : Option PySem.Scope) (V : Str) (P : Pos) (_ : prg.main.body[1]? = some (.FunctionDef N A L D R T S U V P)) => L) _ _ _ _ _ _ _ _ _ _ rfl
noncomputable def kS0 : PySem.Scope := (fun (N : Str) (A : Arguments) (L : List Stmt) (D : List PySem.Expr) (R : Option PySem.Expr) (T : List TypeParam) (S : PySem.Scope) (U : Option PySem.Scope) (V : Str) (P : Pos) (_ : prg.main.body[1]? = some (.FunctionDef N A L D R T S U V P)) => S) _ _ _ _ _ _ _ _ _ _ rfl
noncomputable def kA1 : Arguments := (fun (N : Str) (A : Arguments) (L : List Stmt) (D : List PySem.Expr) (R : Option PySem.Expr) (T : List TypeParam) (S : PySem.Scope) (U : Option PySem.Scope) (V : Str) (P : Pos) (_ : prg.main.body[3]? = some (.FunctionDef N A L D R T S U V P)) => A) _ _ _ _ _ _ _ _ _ _ rfl
noncomputable def kL1 : List Stmt := (fun (N : Str) (A : Arguments) (L : List Stmt) (D : List PySem.Expr) (R : Option PySem.Expr) (T : List TypeParam) (S : PySem.Scope) (U : Option PySem.Scope) (V : Str) (P : Pos) (_ : prg.main.body[3]? = some (.FunctionDef N A L D R T S U V P)) => L) _ _ _ _ _ _ _ _ _ _ rfl
noncomputable def kS1 : PySem.Scope := (fun (N : Str) (A : Arguments) (L : List Stmt) (D : List PySem.Expr) (R : Option PySem.Expr) (T : List TypeParam) (S : PySem.Scope) (U : Option PySem.Scope) (V : Str) (P : Pos) (_ : prg.main.body[3]? = some (.FunctionDef N A L D R T S U V P)) => S) _ _ _ _ _ _ _ _ _ _ rfl
noncomputable def kA2 : Arguments := (fun (N : Str) (A : Arguments) (L : List Stmt) (D : List PySem.Expr) (R : Option PySem.Expr) (T : List TypeParam) (S : PySem.Scope) (U : Option PySem.Scope) (V : Str) (P : Pos) (_ : prg.main.body[4]? = some (.FunctionDef N A L D R T S U V P)) => A) _ _ _ _ _ _ _ _ _ _ rfl
noncomputable def kL2 : List Stmt := (fun (N : Str) (A : Arguments) (L : List Stmt) (D : List PySem.Expr) (R : Option PySem.Expr) (T : List TypeParam) (S : PySem.Scope) (U : Option PySem.Scope) (V : Str) (P : Pos) (_ : prg.main.body[4]? = some (.FunctionDef N A L D R T S U V P)) => L) _ _ _ _ _ _ _ _ _ _ rfl
noncomputable def kS2 : PySem.Scope := (fun (N : Str) (A : Arguments) (L : List Stmt) (D : List PySem.Expr) (R : Option PySem.Expr) (T : List TypeParam) (S : PySem.Scope) (U : Option PySem.Scope) (V : Str) (P : Pos) (_ : prg.main.body[4]? = some (.FunctionDef N A L D R T S U V P)) => S) _ _ _ _ _ _ _ _ _ _ rfl
noncomputable def kA3 : Arguments := (fun (N : Str) (A : Arguments) (L : List Stmt) (D : List PySem.Expr) (R : Option PySem.Expr) (T : List TypeParam) (S : PySem.Scope) (U : Option PySem.Scope) (V : Str) (P : Pos) (_ : prg.main.body[6]? = some (.FunctionDef N A L D R T S U V P)) => A) _ _ _ _ _ _ _ _ _ _ rfl
noncomputable def kL3 : List Stmt := (fun (N : Str) (A : Arguments) (L : List Stmt) (D : List PySem.Expr) (R : Option PySem.Expr) (T : List TypeParam) (S : PySem.Scope) (U : Option PySem.Scope) (V : Str) (P : Pos) (_ : prg.main.body[6]? = some (.FunctionDef N A L D R T S U V P)) => L) _ _ _ _ _ _ _ _ _ _ rfl
noncomputable def kS3 : PySem.Scope := (fun (N : Str) (A : Arguments) (L : List Stmt) (D : List PySem.Expr) (R : Option PySem.Expr) (T : List TypeParam) (S : PySem.Scope) (U : Option PySem.Scope) (V : Str) (P : Pos) (_ : prg.main.body[6]? = some (.FunctionDef N A L D R T S U V P)) => S) _ _ _ _ _ _ _ _ _ _ rfl
noncomputable def kA4 : Arguments := (fun (N : Str) (A : Arguments) (L : List Stmt) (D : List PySem.Expr) (R : Option PySem.Expr) (T : List TypeParam) (S : PySem.Scope) (U : Option PySem.Scope) (V : Str) (P : Pos) (_ : prg.main.body[8]? = some (.FunctionDef N A L D R T S U V P)) => A) _ _ _ _ _ _ _ _ _ _ rfl
noncomputable def kL4 : List Stmt := (fun (N : Str) (A : Arguments) (L : List Stmt) (D : List PySem.Expr) (R : Option PySem.Expr) (T : List TypeParam) (S : PySem.Scope) (U : Option PySem.Scope) (V : Str) (P : Pos) (_ : prg.main.body[8]? = some (.FunctionDef N A L D R T S U V P)) => L) _ _ _ _ _ _ _ _ _ _ rfl
noncomputable def kS4 : PySem.Scope := (fun (N : Str) (A : Arguments) (L : List Stmt) (D : List PySem.Expr) (R : Option PySem.Expr) (T : List TypeParam) (S : PySem.Scope) (U : Option PySem.Scope) (V : Str) (P : Pos) (_ : prg.main.body[8]? = some (.FunctionDef N A L D R T S U V P)) => S) _ _ _ _ _ _ _ _ _ _ rfl
noncomputable def kA5 : Arguments := (fun (N : Str) (A : Arguments) (L : List Stmt) (D : List PySem.Expr) (R : Option PySem.Expr) (T : List TypeParam) (S : PySem.Scope) (U : Option PySem.Scope) (V : Str) (P : Pos) (_ : prg.main.body[21]? = some (.FunctionDef N A L D R T S U V P)) => A) _ _ _ _ _ _ _ _ _ _ rfl
noncomputable def kL5 : List Stmt := (fun (N : Str) (A : Arguments) (L : List Stmt) (D : List PySem.Expr) (R : Option PySem.Expr) (T : List TypeParam) (S : PySem.Scope) (U : Option PySem.Scope) (V : Str) (P : Pos) (_ : prg.main.body[21]? = some (.FunctionDef N A L D R T S U V P)) => L) _ _ _ _ _ _ _ _ _ _ rfl
noncomputable def kS5 : PySem.Scope := (fun (N : Str) (A : Arguments) (L : List Stmt) (D : List PySem.Expr) (R : Option PySem.Expr) (T : List TypeParam) (S : PySem.Scope) (U : Option PySem.Scope) (V : Str) (P : Pos) (_ : prg.main.body[21]? = some (.FunctionDef N A L D R T S U V P)) => S) _ _ _ _ _ _ _ _ _ _ rfl
noncomputable def kA6 : Arguments := (fun (N : Str) (A : Arguments) (L : List Stmt) (D : List PySem.Expr) (R : Option PySem.Expr) (T : List TypeParam) (S : PySem.Scope) (U : Option PySem.Scope) (V : Str) (P : Pos) (_ : prg.main.body[22]? = some (.FunctionDef N A L D R T S U V P)) => A) _ _ _ _ _ _ _ _ _ _ rfl
noncomputable def kL6 : List Stmt := (fun (N : Str) (A : Arguments) (L : List Stmt) (D : List PySem.Expr) (R : Option PySem.Expr) (T : List TypeParam) (S : PySem.Scope) (U : Option PySem.Scope) (V : Str) (P : Pos) (_ : prg.main.body[22]? = some (.FunctionDef N A L D R T S U V P)) => L) _ _ _ _ _ _ _ _ _ _ rfl
noncomputable def kS6 : PySem.Scope := (fun (N : Str) (A : Arguments) (L : List Stmt) (D : List PySem.Expr) (R : Option PySem.Expr) (T : List TypeParam) (S : PySem.Scope) (U : Option PySem.Scope) (V : Str) (P : Pos) (_ : prg.main.body[22]? = some (.FunctionDef N A L D R T S U V P)) => S) _ _ _ _ _ _ _ _ _ _ rfl
noncomputable def kA7 : Arguments := (fun (N : Str) (A : Arguments) (L : List Stmt) (D : List PySem.Expr) (R : Option PySem.Expr) (T : List TypeParam) (S : PySem.Scope) (U : Option PySem.Scope) (V : Str) (P : Pos) (_ : prg.main.body[26]? = some (.FunctionDef N A L D R T S U V P)) => A) _ _ _ _ _ _ _ _ _ _ rfl
noncomputable def kL7 : List Stmt := (fun (N : Str) (A : Arguments) (L : List Stmt) (D : List PySem.Expr) (R : Option PySem.Expr) (T : List TypeParam) (S : PySem.Scope) (U : Option PySem.Scope) (V : Str) (P : Pos) (_ : prg.main.body[26]? = some (.FunctionDef N A L D R T S U V P)) => L) _ _ _ _ _ _ _ _ _ _ rfl
noncomputable def kS7 : PySem.Scope := (fun (N : Str) (A : Arguments) (L : List Stmt) (D : List PySem.Expr) (R : Option PySem.Expr) (T : List TypeParam) (S : PySem.Scope) (U : Option PySem.Scope) (V : Str) (P : Pos) (_ : prg.main.body[26]? = some (.FunctionDef N A L D R T S U V P)) => S) _ _ _ _ _ _ _ _ _ _ rfl
noncomputable def kA8 : Arguments := (fun (N : Str) (A : Arguments) (L : List Stmt) (D : List PySem.Expr) (R : Option PySem.Expr) (T : List TypeParam) (S : PySem.Scope) (U : Option PySem.Scope) (V : Str) (P : Pos) (_ : prg.main.body[27]? = some (.FunctionDef N A L D R T S U V P)) => A) _ _ _ _ _ _ _ _ _ _ rfl
noncomputable def kL8 : List Stmt := (fun (N : Str) (A : Arguments) (L : List Stmt) (D : List PySem.Expr) (R : Option PySem.Expr) (T : List TypeParam) (S : PySem.Scope) (U : Option PySem.Scope) (V : Str) (P : Pos) (_ : prg.main.body[27]? = some (.FunctionDef N A L D R T S U V P)) => L) _ _ _ _ _ _ _ _ _ _ rfl
noncomputable def kS8 : PySem.Scope := (fun (N : Str) (A : Arguments) (L : List Stmt) (D : List PySem.Expr) (R : Option PySem.Expr) (T : List TypeParam) (S : PySem.Scope) (U : Option PySem.Scope) (V : Str) (P : Pos) (_ : prg.main.body[27]? = some (.FunctionDef N A L D R T S U V P)) => S) _ _ _ _ _ _ _ _ _ _ rfl
noncomputable def kA9 : Arguments := (fun (N : Str) (A : Arguments) (L : List Stmt) (D : List PySem.Expr) (R : Option PySem.Expr) (T : List TypeParam) (S : PySem.Scope) (U : Option PySem.Scope) (V : Str) (P : Pos) (_ : prg.main.body[29]? = some (.FunctionDef N A L D R T S U V P)) => A) _ _ _ _ _ _ _ _ _ _ rfl
noncomputable def kL9 : List Stmt := (fun (N : Str) (A : Arguments) (L : List Stmt) (D : List PySem.Expr) (R : Option PySem.Expr) (T : List TypeParam) (S : PySem.Scope) (U : Option PySem.Scope) (V : Str) (P : Pos) (_ : prg.main.body[29]? = some (.FunctionDef N A L D R T S U V P)) => L) _ _ _ _ _ _ _ _ _ _ rfl
noncomputable def kS9 : PySem.Scope := (fun (N : Str) (A : Arguments) (L : List Stmt) (D : List PySem.Expr) (R : Option PySem.Expr) (T : List TypeParam) (S : PySem.Scope) (U : Option PySem.Scope) (V : Str) (P : Pos) (_ : prg.main.body[29]? = some (.FunctionDef N A L D R T S U V P)) => S) _ _ _ _ _ _ _ _ _ _ rfl
noncomputable def kA10 : Arguments := (fun (N : Str) (A : Arguments) (L : List Stmt) (D : List PySem.Expr) (R : Option PySem.Expr) (T : List TypeParam) (S : PySem.Scope) (U : Option PySem.Scope) (V : Str) (P : Pos) (_ : prg.main.body[31]? = some (.FunctionDef N A L D R T S U V P)) => A) _ _ _ _ _ _ _ _ _ _ rfl
noncomputable def kL10 : List Stmt := (fun (N : Str) (A : Arguments) (L : List Stmt) (D : List PySem.Expr) (R : Option PySem.Expr) (T : List TypeParam) (S : PySem.Scope) (U : Option PySem.Scope) (V : Str) (P : Pos) (_ : prg.main.body[31]? = some (.FunctionDef N A L D R T S U V P)) => L) _ _ _ _ _ _ _ _ _ _ rfl
noncomputable def kS10 : PySem.Scope := (fun (N : Str) (A : Arguments) (L : List Stmt) (D : List PySem.Expr) (R : Option PySem.Expr) (T : List TypeParam) (S : PySem.Scope) (U : Option PySem.Scope) (V : Str) (P : Pos) (_ : prg.main.body[31]? = some (.FunctionDef N A L D R T S U V P)) => S) _ _ _ _ _ _ _ _ _ _ rfl
noncomputable def kA11 : Arguments := (fun (N : Str) (A : Arguments) (L : List Stmt) (D : List PySem.Expr) (R : Option PySem.Expr) (T : List TypeParam) (S : PySem.Scope) (U : Option PySem.Scope) (V : Str) (P : Pos) (_ : prg.main.body[33]? = some (.FunctionDef N A L D R T S U V P)) => A) _ _ _ _ _ _ _ _ _ _ rfl
noncomputable def kL11 : List Stmt := (fun (N : Str) (A : Arguments) (L : List Stmt) (D : List PySem.Expr) (R : Option PySem.Expr) (T : List TypeParam) (S : PySem.Scope) (U : Option PySem.Scope) (V : Str) (P : Pos) (_ : prg.main.body[33]? = some (.FunctionDef N A L D R T S U V P)) => L) _ _ _ _ _ _ _ _ _ _ rfl
noncomputable def kS11 : PySem.Scope := (fun (N : Str) (A : Arguments) (L : List Stmt) (D : List PySem.Expr) (R : Option PySem.Expr) (T : List TypeParam) (S : PySem.Scope) (U : Option PySem.Scope) (V : Str) (P : Pos) (_ : prg.main.body[33]? = some (.FunctionDef N A L D R T S U V P)) => S) _ _ _ _ _ _ _ _ _ _ rfl
noncomputable def kA12 : Arguments := (fun (N : Str) (A : Arguments) (L : List Stmt) (D : List PySem.Expr) (R : Option PySem.Expr) (T : List TypeParam) (S : PySem.Scope) (U : Option PySem.Scope) (V : Str) (P : Pos) (_ : prg.main.body[34]? = some (.FunctionDef N A L D R T S U V P)) => A) _ _ _ _ _ _ _ _ _ _ rfl
noncomputable def kL12 : List Stmt := (fun (N : Str) (A : Arguments) (L : List Stmt) (D : List PySem.Expr) (R : Option PySem.Expr) (T : List TypeParam) (S : PySem.Scope) (U : Option PySem.Scope) (V : Str) (P : Pos) (_ : prg.main.body[34]? = some (.FunctionDef N A L D R T S U V P)) => L) _ _ _ _ _ _ _ _ _ _ rfl
noncomputable def kS12 : PySem.Scope := (fun (N : Str) (A : Arguments) (L : List Stmt) (D : List PySem.Expr) (R : Option PySem.Expr) (T : List TypeParam) (S : PySem.Scope) (U : Option PySem.Scope) (V : Str) (P : Pos) (_ : prg.main.body[34]? = some (.FunctionDef N A L D R T S U V P)) => S) _ _ _ _ _ _ _ _ _ _ rfl
noncomputable def kA13 : Arguments := (fun (N : Str) (A : Arguments) (L : List Stmt) (D : List PySem.Expr) (R : Option PySem.Expr) (T : List TypeParam) (S : PySem.Scope) (U : Option PySem.Scope) (V : Str) (P : Pos) (_ : prg.main.body[35]? = some (.FunctionDef N A L D R T S U V P)) => A) _ _ _ _ _ _ _ _ _ _ rfl
noncomputable def kL13 : List Stmt := (fun (N : Str) (A : Arguments) (L : List Stmt) (D : List PySem.Expr) (R : Option PySem.Expr) (T : List TypeParam) (S : PySem.Scope) (U : Option PySem.Scope) (V : Str) (P : Pos) (_ : prg.main.body[35]? = some (.FunctionDef N A L D R T S U V P)) => L) _ _ _ _ _ _ _ _ _ _ rfl
noncomputable def kS13 : PySem.Scope := (fun (N : Str) (A : Arguments) (L : List Stmt) (D : List PySem.Expr) (R : Option PySem.Expr) (T : List TypeParam) (S : PySem.Scope) (U : Option PySem.Scope) (V : Str) (P : Pos) (_ : prg.main.body[35]? = some (.FunctionDef N A L D R T S U V P)) => S) _ _ _ _ _ _ _ _ _ _ rfl
noncomputable def kA14 : Arguments := (fun (N : Str) (A : Arguments) (L : List Stmt) (D : List PySem.Expr) (R : Option PySem.Expr) (T : List TypeParam) (S : PySem.Scope) (U : Option PySem.Scope) (V : Str) (P : Pos) (_ : prg.main.body[36]? = some (.FunctionDef N A L D R T S U V P)) => A) _ _ _ _ _ _ _ _ _ _ rfl
noncomputable def kL14 : List Stmt := (fun (N : Str) (A : Arguments) (L : List Stmt) (D : List PySem.Expr) (R : Option PySem.Expr) (T : List TypeParam) (S : PySem.Scope) (U : Option PySem.Scope) (V : Str) (P : Pos) (_ : prg.main.body[36]? = some (.FunctionDef N A L D R T S U V P)) => L) _ _ _ _ _ _ _ _ _ _ rfl
noncomputable def kS14 : PySem.Scope := (fun (N : Str) (A : Arguments) (L : List Stmt) (D : List PySem.Expr) (R : Option PySem.Expr) (T : List TypeParam) (S : PySem.Scope) (U : Option PySem.Scope) (V : Str) (P : Pos) (_ : prg.main.body[36]? = some (.FunctionDef N A L D R T S U V P)) => S) _ _ _ _ _ _ _ _ _ _ rfl
noncomputable def kA15 : Arguments := (fun (N : Str) (A : Arguments) (L : List Stmt) (D : List PySem.Expr) (R : Option PySem.Expr) (T : List TypeParam) (S : PySem.Scope) (U : Option PySem.Scope) (V : Str) (P : Pos) (_ : prg.main.body[37]? = some (.FunctionDef N A L D R T S U V P)) => A) _ _ _ _ _ _ _ _ _ _ rfl
noncomputable def kL15 : List Stmt := (fun (N : Str) (A : Arguments) (L : List Stmt) (D : List PySem.Expr) (R : Option PySem.Expr) (T : List TypeParam) (S : PySem.Scope) (U : Option PySem.Scope) (V : Str) (P : Pos) (_ : prg.main.body[37]? = some (.FunctionDef N A L D R T S U V P)) => L) _ _ _ _ _ _ _ _ _ _ rfl
noncomputable def kS15 : PySem.Scope := (fun (N : Str) (A : Arguments) (L : List Stmt) (D : List PySem.Expr) (R : Option PySem.Expr) (T : List TypeParam) (S : PySem.Scope) (U : Option PySem.Scope) (V : Str) (P : Pos) (_ : prg.main.body[37]? = some (.FunctionDef N A L D R T S U V P)) => S) _ _ _ _ _ _ _ _ _ _ rfl
noncomputable def kA16 : Arguments := (fun (N : Str) (A : Arguments) (L : List Stmt) (D : List PySem.Expr) (R : Option PySem.Expr) (T : List TypeParam) (S : PySem.Scope) (U : Option PySem.Scope) (V : Str) (P : Pos) (_ : prg.main.body[38]? = some (.FunctionDef N A L D R T S U V P)) => A) _ _ _ _ _ _ _ _ _ _ rfl
noncomputable def kL16 : List Stmt := (fun (N : Str) (A : Arguments) (L : List Stmt) (D : List PySem.Expr) (R : Option PySem.Expr) (T : List TypeParam) (S : PySem.Scope) (U : Option PySem.Scope) (V : Str) (P : Pos) (_ : prg.main.body[38]? = some (.FunctionDef N A L D R T S U V P)) => L) _ _ _ _ _ _ _ _ _ _ rfl
noncomputable def kS16 : PySem.Scope := (fun (N : Str) (A : Arguments) (L : List Stmt) (D : List PySem.Expr) (R : Option PySem.Expr) (T : List TypeParam) (S : PySem.Scope) (U : Option PySem.Scope) (V : Str) (P : Pos) (_ : prg.main.body[38]? = some (.FunctionDef N A L D R T S U V P)) => S) _ _ _ _ _ _ _ _ _ _ rfl
noncomputable def hd.heap_39 : Params → Frag := fun P => (fun (K : Frag) (_ : K = 
  (nat_lit 2,
      { cls := Value.none,
        data :=
          Data.dict
            #[{ hash := PyData.keyHash P (Str.ofString "\x69mport.loaded._sre"), key := Value.str (Str.ofString "\x69mport.loaded._sre") 183, val := Value.bool true },
              { hash := PyData.keyHash P (Str.ofString "class._frozen_importlib.BuiltinImporter"), key := Value.str (Str.ofString "class._frozen_importlib.BuiltinImporter") 185, val := Value.ref 14 },
              { hash := PyData.keyHash P (Str.ofString "watched.\x69mport"), key := Value.str (Str.ofString "watched.\x69mport") 206, val := Value.ref 18 },
              { hash := PyData.keyHash P (Str.ofString "class._frozen_importlib.ModuleSpec"), key := Value.str (Str.ofString "class._frozen_importlib.ModuleSpec") 216, val := Value.ref 22 },
              { hash := PyData.keyHash P (Str.ofString "sys.modules.booked-epoch"), key := Value.str (Str.ofString "sys.modules.booked-epoch") 245, val := Value.int 3 0 },
              { hash := PyData.keyHash P (Str.ofString "\x69mport.later-laid._sre"), key := Value.str (Str.ofString "\x69mport.later-laid._sre") 270, val := Value.bool true },
              { hash := PyData.keyHash P (Str.ofString "watched.library"), key := Value.str (Str.ofString "watched.library") 272, val := Value.ref 27 },
              { hash := PyData.keyHash P (Str.ofString "watched.library-objects"), key := Value.str (Str.ofString "watched.library-objects") 0, val := Value.str (Str.ofString "\x0c") 0 },
              { hash := PyData.keyHash P (Str.ofString "watched.library-deep._sre"), key := Value.str (Str.ofString "watched.library-deep._sre") 273,
                val := Value.str (Str.ofString "\x04\x00\x00\x0b\x04\x00\x00\x0b\x04\x00\x00\x03\x04\x00\x00\x0b\x08\x04dict\x02") 0 }]
            9 }) ::
    (nat_lit 3,
      { cls := Value.type "dict",
        data :=
          Data.dict
            #[{ hash := PyData.keyHash P (Str.ofString "__name__"), key := Value.str (Str.ofString "__name__") 165, val := Value.str (Str.ofString "law_il0164_01") 1970 },
              { hash := PyData.keyHash P (Str.ofString "__doc__"), key := Value.str (Str.ofString "__doc__") 166, val := Value.none },
              { hash := PyData.keyHash P (Str.ofString "__package__"), key := Value.str (Str.ofString "__package__") 167, val := Value.none },
              { hash := PyData.keyHash P (Str.ofString "__loader__"), key := Value.str (Str.ofString "__loader__") 168, val := Value.builtin "__main__.__loader__#opaque" },
              { hash := PyData.keyHash P (Str.ofString "__spec__"), key := Value.str (Str.ofString "__spec__") 169, val := Value.none },
              { hash := PyData.keyHash P (Str.ofString "__annotations__"), key := Value.str (Str.ofString "__annotations__") 170, val := Value.ref 6 },
              { hash := PyData.keyHash P (Str.ofString "__builtins__"), key := Value.str (Str.ofString "__builtins__") 171, val := Value.ref 4 },
              { hash := PyData.keyHash P (Str.ofString "__file__"), key := Value.str (Str.ofString "__file__") 173, val := Value.str (Str.ofString "/claim/cut.py") 172 },
              { hash := PyData.keyHash P (Str.ofString "__cached__"), key := Value.str (Str.ofString "__cached__") 174, val := Value.none },
              { hash := PyData.keyHash P (Str.ofString "_sre"), key := Value.str (Str.ofString "_sre") 275, val := Value.ref 12 },
              { hash := PyData.keyHash P (Str.ofString "_wall"), key := Value.str (Str.ofString "_wall") 288, val := Value.ref 38 },
              { hash := PyData.keyHash P (Str.ofString "_buffer"), key := Value.str (Str.ofString "_buffer") 298, val := Value.ref 45 },
              { hash := PyData.keyHash P (Str.ofString "_truth"), key := Value.str (Str.ofString "_truth") 306, val := Value.ref 52 },
              { hash := PyData.keyHash P (Str.ofString "_B64"), key := Value.str (Str.ofString "_B64") 308,
                val :=
                  Value.bytes
                    #[65, 66, 67, 68, 69, 70, 71, 72, 73, 74, 75, 76, 77, 78, 79, 80, 81, 82, 83, 84, 85, 86, 87, 88, 89, 90, 97, 98, 99, 100, 101, 102, 103, 104, 105, 106, 107, 108, 109, 110, 111, 112, 113, 114, 115, 116, 117,
                      118, 119, 120, 121, 122, 48, 49, 50, 51, 52, 53, 54, 55, 56, 57, 43, 47]
                    307 },
              { hash := PyData.keyHash P (Str.ofString "b2a_base64"), key := Value.str (Str.ofString "b2a_base64") 322, val := Value.ref 60 },
              { hash := PyData.keyHash P (Str.ofString "b64encode"), key := Value.str (Str.ofString "b64encode") 333, val := Value.ref 68 },
              { hash := PyData.keyHash P (Str.ofString "_twin_re_1"), key := Value.str (Str.ofString "_twin_re_1") 368, val := Value.ref 73 },
              { hash := PyData.keyHash P (Str.ofString "_QUOPRI_MAP"), key := Value.str (Str.ofString "_QUOPRI_MAP") 1396, val := Value.ref 76 },
              { hash := PyData.keyHash P (Str.ofString "_QUOPRI_HEADER_MAP"), key := Value.str (Str.ofString "_QUOPRI_HEADER_MAP") 1397, val := Value.ref 81 },
              { hash := PyData.keyHash P (Str.ofString "_QUOPRI_BODY_MAP"), key := Value.str (Str.ofString "_QUOPRI_BODY_MAP") 1398, val := Value.ref 83 },
              { hash := PyData.keyHash P (Str.ofString "ascii_lowercase"), key := Value.str (Str.ofString "ascii_lowercase") 1400, val := Value.str (Str.ofString "abcdefghijklmnopqrstuvwxyz") 1399 },
              { hash := PyData.keyHash P (Str.ofString "ascii_uppercase"), key := Value.str (Str.ofString "ascii_uppercase") 1402, val := Value.str (Str.ofString "ABCDEFGHIJKLMNOPQRSTUVWXYZ") 1401 },
              { hash := PyData.keyHash P (Str.ofString "ascii_letters"), key := Value.str (Str.ofString "ascii_letters") 1404, val := Value.str (Str.ofString "abcdefghijklmnopqrstuvwxyzABCDEFGHIJKLMNOPQRSTUVWXYZ") 1403 },
              { hash := PyData.keyHash P (Str.ofString "digits"), key := Value.str (Str.ofString "digits") 1406, val := Value.str (Str.ofString "0123456789") 1405 },
              { hash := PyData.keyHash P (Str.ofString "unquote"), key := Value.str (Str.ofString "unquote") 1912, val := Value.ref 96 },
              { hash := PyData.keyHash P (Str.ofString "header_encode"), key := Value.str (Str.ofString "header_encode") 1922, val := Value.ref 104 },
              { hash := PyData.keyHash P (Str.ofString "_QUOPRI_BODY_ENCODE_MAP"), key := Value.str (Str.ofString "_QUOPRI_BODY_ENCODE_MAP") 1923, val := Value.ref 106 },
              { hash := PyData.keyHash P (Str.ofString "_unquote_match"), key := Value.str (Str.ofString "_unquote_match") 1938, val := Value.ref 116 },
              { hash := PyData.keyHash P (Str.ofString "header_decode"), key := Value.str (Str.ofString "header_decode") 1945, val := Value.ref 123 },
              { hash := PyData.keyHash P (Str.ofString "cmp_to_key"), key := Value.str (Str.ofString "cmp_to_key") 1956, val := Value.ref 130 },
              { hash := PyData.keyHash P (Str.ofString "_initial_missing"), key := Value.str (Str.ofString "_initial_missing") 1957, val := Value.ref 131 },
              { hash := PyData.keyHash P (Str.ofString "reduce"), key := Value.str (Str.ofString "reduce") 1969, val := Value.ref 139 },
              { hash := PyData.keyHash P (Str.ofString "_law_compare"), key := Value.str (Str.ofString "_law_compare") 1979, val := Value.ref 146 },
              { hash := PyData.keyHash P (Str.ofString "_law_best"), key := Value.str (Str.ofString "_law_best") 1989, val := Value.ref 153 },
              { hash := PyData.keyHash P (Str.ofString "_law_lengths"), key := Value.str (Str.ofString "_law_lengths") 1995, val := Value.ref 158 },
              { hash := PyData.keyHash P (Str.ofString "_law_threes"), key := Value.str (Str.ofString "_law_threes") 2007, val := Value.ref 165 },
              { hash := PyData.keyHash P (Str.ofString "_law_read"), key := Value.str (Str.ofString "_law_read") 2013, val := Value.ref 170 },
              { hash := PyData.keyHash P (Str.ofString "law"), key := Value.str (Str.ofString "law") 2019, val := Value.ref 175 }]
            40 }) ::
    (nat_lit 32, { cls := Value.type "tuple", data := Data.seq #[] }) ::
    (nat_lit 34, { cls := Value.type "tuple", data := Data.seq #[Value.str (Str.ofString "k") 285] }) ::
    (nat_lit 35, { cls := Value.type "tuple", data := Data.seq #[] }) ::
    (nat_lit 37,
      { cls := Value.type "code",
        data :=
          Data.fields
            #[Value.str (Str.ofString "_wall") 282, Value.str (Str.ofString "_wall") 283, Value.str (Str.ofString "/claim/cut.py") 284, Value.int 2 0, Value.int 1 0, Value.int 0 0, Value.int 0 0, Value.int 3 0, Value.ref 32,
              Value.bool true, Value.int 276 0, Value.ref 33, Value.none, Value.ref 34, Value.ref 35, Value.ref 36, Value.int 286 0, Value.int 2 0, Value.str (Str.ofString "/claim/cut.py") 287] }) ::
    (nat_lit 38,
      { cls := Value.type "function",
        data :=
          Data.func
            { name := Str.ofString "_wall", qualname := Str.ofString "_wall", params := kA0, body := (FuncBody.stmts kL0), scope := kS0, globals := 3, closure := [], defaults := Value.none, kwdefaults := Value.none,
              pyModule := Value.str (Str.ofString "__main__") 164, code := Value.ref 37 } }) ::
    (nat_lit 39, { cls := Value.type "tuple", data := Data.seq #[] }) ::
    (nat_lit 41, { cls := Value.type "tuple", data := Data.seq #[Value.str (Str.ofString "data") 294, Value.str (Str.ofString "t") 295] }) ::
    (nat_lit 42, { cls := Value.type "tuple", data := Data.seq #[] }) ::
    (nat_lit 44,
      { cls := Value.type "code",
        data :=
          Data.fields
            #[Value.str (Str.ofString "_buffer") 291, Value.str (Str.ofString "_buffer") 292, Value.str (Str.ofString "/claim/cut.py") 293, Value.int 6 0, Value.int 1 0, Value.int 0 0, Value.int 0 0, Value.int 3 0, Value.ref 39,
              Value.bool true, Value.int 276 0, Value.ref 40, Value.none, Value.ref 41, Value.ref 42, Value.ref 43, Value.int 296 0, Value.int 6 0, Value.str (Str.ofString "/claim/cut.py") 297] }) ::
    (nat_lit 45,
      { cls := Value.type "function",
        data :=
          Data.func
            { name := Str.ofString "_buffer", qualname := Str.ofString "_buffer", params := kA1, body := (FuncBody.stmts kL1), scope := kS1, globals := 3, closure := [], defaults := Value.none, kwdefaults := Value.none,
              pyModule := Value.str (Str.ofString "binascii") 289, code := Value.ref 44 } }) ::
    (nat_lit 46, { cls := Value.type "tuple", data := Data.seq #[] }) ::
    (nat_lit 48, { cls := Value.type "tuple", data := Data.seq #[Value.str (Str.ofString "x") 302, Value.str (Str.ofString "t") 303] }) ::
    (nat_lit 49, { cls := Value.type "tuple", data := Data.seq #[] }) ::
    (nat_lit 51,
      { cls := Value.type "code",
        data :=
          Data.fields
            #[Value.str (Str.ofString "_truth") 299, Value.str (Str.ofString "_truth") 300, Value.str (Str.ofString "/claim/cut.py") 301, Value.int 13 0, Value.int 1 0, Value.int 0 0, Value.int 0 0, Value.int 3 0, Value.ref 46,
              Value.bool true, Value.int 276 0, Value.ref 47, Value.none, Value.ref 48, Value.ref 49, Value.ref 50, Value.int 304 0, Value.int 13 0, Value.str (Str.ofString "/claim/cut.py") 305] }) ::
    (nat_lit 52,
      { cls := Value.type "function",
        data :=
          Data.func
            { name := Str.ofString "_truth", qualname := Str.ofString "_truth", params := kA2, body := (FuncBody.stmts kL2), scope := kS2, globals := 3, closure := [], defaults := Value.none, kwdefaults := Value.none,
              pyModule := Value.str (Str.ofString "binascii") 289, code := Value.ref 51 } }) ::
    (nat_lit 53, { cls := Value.type "dict", data := Data.dict #[{ hash := PyData.keyHash P (Str.ofString "newline"), key := Value.str (Str.ofString "newline") 309, val := Value.bool true }] 1 }) ::
    (nat_lit 54, { cls := Value.type "tuple", data := Data.seq #[] }) ::
    (nat_lit 56,
      { cls := Value.type "tuple",
        data :=
          Data.seq
            #[Value.str (Str.ofString "data") 313, Value.str (Str.ofString "newline") 314, Value.str (Str.ofString "bin_data") 315, Value.str (Str.ofString "out") 316, Value.str (Str.ofString "leftbits") 317,
              Value.str (Str.ofString "leftchar") 318, Value.str (Str.ofString "b") 319] }) ::
    (nat_lit 57, { cls := Value.type "tuple", data := Data.seq #[] }) ::
    (nat_lit 59,
      { cls := Value.type "code",
        data :=
          Data.fields
            #[Value.str (Str.ofString "b2a_base64") 310, Value.str (Str.ofString "b2a_base64") 311, Value.str (Str.ofString "/claim/cut.py") 312, Value.int 19 0, Value.int 1 0, Value.int 1 0, Value.int 1 0, Value.int 3 0,
              Value.ref 54, Value.bool true, Value.int 276 0, Value.ref 55, Value.none, Value.ref 56, Value.ref 57, Value.ref 58, Value.int 320 0, Value.int 19 0, Value.str (Str.ofString "/claim/cut.py") 321] }) ::
    (nat_lit 60,
      { cls := Value.type "function",
        data :=
          Data.func
            { name := Str.ofString "b2a_base64", qualname := Str.ofString "b2a_base64", params := kA3, body := (FuncBody.stmts kL3), scope := kS3, globals := 3, closure := [], defaults := Value.none, kwdefaults := Value.ref 53,
              pyModule := Value.str (Str.ofString "binascii") 289, code := Value.ref 59 } }) ::
    (nat_lit 61, { cls := Value.type "tuple", data := Data.seq #[Value.none] }) ::
    (nat_lit 62, { cls := Value.type "tuple", data := Data.seq #[] }) ::
    (nat_lit 64, { cls := Value.type "tuple", data := Data.seq #[Value.str (Str.ofString "s") 328, Value.str (Str.ofString "altchars") 329, Value.str (Str.ofString "encoded") 330] }) ::
    (nat_lit 65, { cls := Value.type "tuple", data := Data.seq #[] }) ::
    (nat_lit 67,
      { cls := Value.type "code",
        data :=
          Data.fields
            #[Value.str (Str.ofString "b64encode") 325, Value.str (Str.ofString "b64encode") 326, Value.str (Str.ofString "/claim/cut.py") 327, Value.int 42 0, Value.int 2 0, Value.int 0 0, Value.int 0 0, Value.int 3 0,
              Value.ref 62, Value.bool true, Value.int 276 0, Value.ref 63, Value.none, Value.ref 64, Value.ref 65, Value.ref 66, Value.int 331 0, Value.int 42 0, Value.str (Str.ofString "/claim/cut.py") 332] }) ::
    (nat_lit 68,
      { cls := Value.type "function",
        data :=
          Data.func
            { name := Str.ofString "b64encode", qualname := Str.ofString "b64encode", params := kA4, body := (FuncBody.stmts kL4), scope := kS4, globals := 3, closure := [], defaults := Value.ref 61, kwdefaults := Value.none,
              pyModule := Value.str (Str.ofString "cpy313.base64") 323, code := Value.ref 67 } }) ::
    (nat_lit 72,
      { cls := Value.type "tuple",
        data :=
          Data.seq
            #[Value.int 14 0, Value.int 8 0, Value.int 1 0, Value.int 3 0, Value.int 3 0, Value.int 1 0, Value.int 1 0, Value.int 61 0, Value.int 0 0, Value.int 16 0, Value.int 61 0, Value.int 24 0, Value.int 16 0, Value.int 2 0,
              Value.int 2 0, Value.int 13 0, Value.int 11 0, Value.int 9 0, Value.int 0 0, Value.int 67043328 0, Value.int 126 0, Value.int 126 0, Value.int 0 0, Value.int 0 0, Value.int 0 0, Value.int 0 0, Value.int 0 0,
              Value.int 1 0, Value.int 1 0] }) ::
    (nat_lit 73, { cls := Value.type "re.Pattern", data := Data.fields #[Value.str (Str.ofString "=[a-fA-F0-9]{2}") 335, Value.int 256 367, Value.int 0 0, Value.none, Value.none, Value.ref 72, Value.int 0 0] }) ::
    (nat_lit 81,
      { cls := Value.type "list",
        data :=
          Data.seq
            #[Value.str (Str.ofString "=00") 375, Value.str (Str.ofString "=01") 379, Value.str (Str.ofString "=02") 383, Value.str (Str.ofString "=03") 387, Value.str (Str.ofString "=04") 391, Value.str (Str.ofString "=05") 395,
              Value.str (Str.ofString "=06") 399, Value.str (Str.ofString "=07") 403, Value.str (Str.ofString "=08") 407, Value.str (Str.ofString "=09") 411, Value.str (Str.ofString "=0A") 415, Value.str (Str.ofString "=0B") 419,
              Value.str (Str.ofString "=0C") 423, Value.str (Str.ofString "=0D") 427, Value.str (Str.ofString "=0E") 431, Value.str (Str.ofString "=0F") 435, Value.str (Str.ofString "=10") 439, Value.str (Str.ofString "=11") 443,
              Value.str (Str.ofString "=12") 447, Value.str (Str.ofString "=13") 451, Value.str (Str.ofString "=14") 455, Value.str (Str.ofString "=15") 459, Value.str (Str.ofString "=16") 463, Value.str (Str.ofString "=17") 467,
              Value.str (Str.ofString "=18") 471, Value.str (Str.ofString "=19") 475, Value.str (Str.ofString "=1A") 479, Value.str (Str.ofString "=1B") 483, Value.str (Str.ofString "=1C") 487, Value.str (Str.ofString "=1D") 491,
              Value.str (Str.ofString "=1E") 495, Value.str (Str.ofString "=1F") 499, Value.str (Str.ofString "_") 1617, Value.str (Str.ofString "!") 1421, Value.str (Str.ofString "=22") 511, Value.str (Str.ofString "=23") 515,
              Value.str (Str.ofString "=24") 519, Value.str (Str.ofString "=25") 523, Value.str (Str.ofString "=26") 527, Value.str (Str.ofString "=27") 531, Value.str (Str.ofString "=28") 535, Value.str (Str.ofString "=29") 539,
              Value.str (Str.ofString "*") 1424, Value.str (Str.ofString "+") 1427, Value.str (Str.ofString "=2C") 551, Value.str (Str.ofString "-") 1418, Value.str (Str.ofString "=2E") 559, Value.str (Str.ofString "/") 1430,
              Value.str (Str.ofString "0") 1589, Value.str (Str.ofString "1") 1592, Value.str (Str.ofString "2") 1595, Value.str (Str.ofString "3") 1598, Value.str (Str.ofString "4") 1601, Value.str (Str.ofString "5") 1604,
              Value.str (Str.ofString "6") 1607, Value.str (Str.ofString "7") 1610, Value.str (Str.ofString "8") 1613, Value.str (Str.ofString "9") 1616, Value.str (Str.ofString "=3A") 607, Value.str (Str.ofString "=3B") 611,
              Value.str (Str.ofString "=3C") 615, Value.str (Str.ofString "=3D") 619, Value.str (Str.ofString "=3E") 623, Value.str (Str.ofString "=3F") 627, Value.str (Str.ofString "=40") 631, Value.str (Str.ofString "A") 1511,
              Value.str (Str.ofString "B") 1514, Value.str (Str.ofString "C") 1517, Value.str (Str.ofString "D") 1520, Value.str (Str.ofString "E") 1523, Value.str (Str.ofString "F") 1526, Value.str (Str.ofString "G") 1529,
              Value.str (Str.ofString "H") 1532, Value.str (Str.ofString "I") 1535, Value.str (Str.ofString "J") 1538, Value.str (Str.ofString "K") 1541, Value.str (Str.ofString "L") 1544, Value.str (Str.ofString "M") 1547,
              Value.str (Str.ofString "N") 1550, Value.str (Str.ofString "O") 1553, Value.str (Str.ofString "P") 1556, Value.str (Str.ofString "Q") 1559, Value.str (Str.ofString "R") 1562, Value.str (Str.ofString "S") 1565,
              Value.str (Str.ofString "T") 1568, Value.str (Str.ofString "U") 1571, Value.str (Str.ofString "V") 1574, Value.str (Str.ofString "W") 1577, Value.str (Str.ofString "X") 1580, Value.str (Str.ofString "Y") 1583,
              Value.str (Str.ofString "Z") 1586, Value.str (Str.ofString "=5B") 739, Value.str (Str.ofString "=5C") 743, Value.str (Str.ofString "=5D") 747, Value.str (Str.ofString "=5E") 751, Value.str (Str.ofString "=5F") 755,
              Value.str (Str.ofString "=60") 759, Value.str (Str.ofString "a") 1433, Value.str (Str.ofString "b") 1436, Value.str (Str.ofString "c") 1439, Value.str (Str.ofString "d") 1442, Value.str (Str.ofString "e") 1445,
              Value.str (Str.ofString "f") 1448, Value.str (Str.ofString "g") 1451, Value.str (Str.ofString "h") 1454, Value.str (Str.ofString "i") 1457, Value.str (Str.ofString "j") 1460, Value.str (Str.ofString "k") 1463,
              Value.str (Str.ofString "l") 1466, Value.str (Str.ofString "m") 1469, Value.str (Str.ofString "n") 1472, Value.str (Str.ofString "o") 1475, Value.str (Str.ofString "p") 1478, Value.str (Str.ofString "q") 1481,
              Value.str (Str.ofString "r") 1484, Value.str (Str.ofString "s") 1487, Value.str (Str.ofString "t") 1490, Value.str (Str.ofString "u") 1493, Value.str (Str.ofString "v") 1496, Value.str (Str.ofString "w") 1499,
              Value.str (Str.ofString "x") 1502, Value.str (Str.ofString "y") 1505, Value.str (Str.ofString "z") 1508, Value.str (Str.ofString "=7B") 867, Value.str (Str.ofString "=7C") 871, Value.str (Str.ofString "=7D") 875,
              Value.str (Str.ofString "=7E") 879, Value.str (Str.ofString "=7F") 883, Value.str (Str.ofString "=80") 887, Value.str (Str.ofString "=81") 891, Value.str (Str.ofString "=82") 895, Value.str (Str.ofString "=83") 899,
              Value.str (Str.ofString "=84") 903, Value.str (Str.ofString "=85") 907, Value.str (Str.ofString "=86") 911, Value.str (Str.ofString "=87") 915, Value.str (Str.ofString "=88") 919, Value.str (Str.ofString "=89") 923,
              Value.str (Str.ofString "=8A") 927, Value.str (Str.ofString "=8B") 931, Value.str (Str.ofString "=8C") 935, Value.str (Str.ofString "=8D") 939, Value.str (Str.ofString "=8E") 943, Value.str (Str.ofString "=8F") 947,
              Value.str (Str.ofString "=90") 951, Value.str (Str.ofString "=91") 955, Value.str (Str.ofString "=92") 959, Value.str (Str.ofString "=93") 963, Value.str (Str.ofString "=94") 967, Value.str (Str.ofString "=95") 971,
              Value.str (Str.ofString "=96") 975, Value.str (Str.ofString "=97") 979, Value.str (Str.ofString "=98") 983, Value.str (Str.ofString "=99") 987, Value.str (Str.ofString "=9A") 991, Value.str (Str.ofString "=9B") 995,
              Value.str (Str.ofString "=9C") 999, Value.str (Str.ofString "=9D") 1003, Value.str (Str.ofString "=9E") 1007, Value.str (Str.ofString "=9F") 1011, Value.str (Str.ofString "=A0") 1015,
              Value.str (Str.ofString "=A1") 1019, Value.str (Str.ofString "=A2") 1023, Value.str (Str.ofString "=A3") 1027, Value.str (Str.ofString "=A4") 1031, Value.str (Str.ofString "=A5") 1035,
              Value.str (Str.ofString "=A6") 1039, Value.str (Str.ofString "=A7") 1043, Value.str (Str.ofString "=A8") 1047, Value.str (Str.ofString "=A9") 1051, Value.str (Str.ofString "=AA") 1055,
              Value.str (Str.ofString "=AB") 1059, Value.str (Str.ofString "=AC") 1063, Value.str (Str.ofString "=AD") 1067, Value.str (Str.ofString "=AE") 1071, Value.str (Str.ofString "=AF") 1075,
              Value.str (Str.ofString "=B0") 1079, Value.str (Str.ofString "=B1") 1083, Value.str (Str.ofString "=B2") 1087, Value.str (Str.ofString "=B3") 1091, Value.str (Str.ofString "=B4") 1095,
              Value.str (Str.ofString "=B5") 1099, Value.str (Str.ofString "=B6") 1103, Value.str (Str.ofString "=B7") 1107, Value.str (Str.ofString "=B8") 1111, Value.str (Str.ofString "=B9") 1115,
              Value.str (Str.ofString "=BA") 1119, Value.str (Str.ofString "=BB") 1123, Value.str (Str.ofString "=BC") 1127, Value.str (Str.ofString "=BD") 1131, Value.str (Str.ofString "=BE") 1135,
              Value.str (Str.ofString "=BF") 1139, Value.str (Str.ofString "=C0") 1143, Value.str (Str.ofString "=C1") 1147, Value.str (Str.ofString "=C2") 1151, Value.str (Str.ofString "=C3") 1155,
              Value.str (Str.ofString "=C4") 1159, Value.str (Str.ofString "=C5") 1163, Value.str (Str.ofString "=C6") 1167, Value.str (Str.ofString "=C7") 1171, Value.str (Str.ofString "=C8") 1175,
              Value.str (Str.ofString "=C9") 1179, Value.str (Str.ofString "=CA") 1183, Value.str (Str.ofString "=CB") 1187, Value.str (Str.ofString "=CC") 1191, Value.str (Str.ofString "=CD") 1195,
              Value.str (Str.ofString "=CE") 1199, Value.str (Str.ofString "=CF") 1203, Value.str (Str.ofString "=D0") 1207, Value.str (Str.ofString "=D1") 1211, Value.str (Str.ofString "=D2") 1215,
              Value.str (Str.ofString "=D3") 1219, Value.str (Str.ofString "=D4") 1223, Value.str (Str.ofString "=D5") 1227, Value.str (Str.ofString "=D6") 1231, Value.str (Str.ofString "=D7") 1235,
              Value.str (Str.ofString "=D8") 1239, Value.str (Str.ofString "=D9") 1243, Value.str (Str.ofString "=DA") 1247, Value.str (Str.ofString "=DB") 1251, Value.str (Str.ofString "=DC") 1255,
              Value.str (Str.ofString "=DD") 1259, Value.str (Str.ofString "=DE") 1263, Value.str (Str.ofString "=DF") 1267, Value.str (Str.ofString "=E0") 1271, Value.str (Str.ofString "=E1") 1275,
              Value.str (Str.ofString "=E2") 1279, Value.str (Str.ofString "=E3") 1283, Value.str (Str.ofString "=E4") 1287, Value.str (Str.ofString "=E5") 1291, Value.str (Str.ofString "=E6") 1295,
              Value.str (Str.ofString "=E7") 1299, Value.str (Str.ofString "=E8") 1303, Value.str (Str.ofString "=E9") 1307, Value.str (Str.ofString "=EA") 1311, Value.str (Str.ofString "=EB") 1315,
              Value.str (Str.ofString "=EC") 1319, Value.str (Str.ofString "=ED") 1323, Value.str (Str.ofString "=EE") 1327, Value.str (Str.ofString "=EF") 1331, Value.str (Str.ofString "=F0") 1335,
              Value.str (Str.ofString "=F1") 1339, Value.str (Str.ofString "=F2") 1343, Value.str (Str.ofString "=F3") 1347, Value.str (Str.ofString "=F4") 1351, Value.str (Str.ofString "=F5") 1355,
              Value.str (Str.ofString "=F6") 1359, Value.str (Str.ofString "=F7") 1363, Value.str (Str.ofString "=F8") 1367, Value.str (Str.ofString "=F9") 1371, Value.str (Str.ofString "=FA") 1375,
              Value.str (Str.ofString "=FB") 1379, Value.str (Str.ofString "=FC") 1383, Value.str (Str.ofString "=FD") 1387, Value.str (Str.ofString "=FE") 1391, Value.str (Str.ofString "=FF") 1395] }) ::
    (nat_lit 90, { cls := Value.type "tuple", data := Data.seq #[] }) ::
    (nat_lit 92, { cls := Value.type "tuple", data := Data.seq #[Value.str (Str.ofString "s") 1909] }) ::
    (nat_lit 93, { cls := Value.type "tuple", data := Data.seq #[] }) ::
    (nat_lit 95,
      { cls := Value.type "code",
        data :=
          Data.fields
            #[Value.str (Str.ofString "unquote") 1906, Value.str (Str.ofString "unquote") 1907, Value.str (Str.ofString "/claim/cut.py") 1908, Value.int 62 0, Value.int 1 0, Value.int 0 0, Value.int 0 0, Value.int 3 0,
              Value.ref 90, Value.bool true, Value.int 276 0, Value.ref 91, Value.none, Value.ref 92, Value.ref 93, Value.ref 94, Value.int 1910 0, Value.int 62 0, Value.str (Str.ofString "/claim/cut.py") 1911] }) ::
    (nat_lit 96,
      { cls := Value.type "function",
        data :=
          Data.func
            { name := Str.ofString "unquote", qualname := Str.ofString "unquote", params := kA5, body := (FuncBody.stmts kL5), scope := kS5, globals := 3, closure := [], defaults := Value.none, kwdefaults := Value.none,
              pyModule := Value.str (Str.ofString "cpy313.email.quoprimime") 1407, code := Value.ref 95 } }) ::
    (nat_lit 97, { cls := Value.type "tuple", data := Data.seq #[Value.str (Str.ofString "iso-8859-1") 1913] }) ::
    (nat_lit 98, { cls := Value.type "tuple", data := Data.seq #[] }) ::
    (nat_lit 100, { cls := Value.type "tuple", data := Data.seq #[Value.str (Str.ofString "header_bytes") 1917, Value.str (Str.ofString "charset") 1918, Value.str (Str.ofString "encoded") 1919] }) ::
    (nat_lit 101, { cls := Value.type "tuple", data := Data.seq #[] }) ::
    (nat_lit 103,
      { cls := Value.type "code",
        data :=
          Data.fields
            #[Value.str (Str.ofString "header_encode") 1914, Value.str (Str.ofString "header_encode") 1915, Value.str (Str.ofString "/claim/cut.py") 1916, Value.int 64 0, Value.int 2 0, Value.int 0 0, Value.int 0 0, Value.int 3 0,
              Value.ref 98, Value.bool true, Value.int 276 0, Value.ref 99, Value.none, Value.ref 100, Value.ref 101, Value.ref 102, Value.int 1920 0, Value.int 64 0, Value.str (Str.ofString "/claim/cut.py") 1921] }) ::
    (nat_lit 104,
      { cls := Value.type "function",
        data :=
          Data.func
            { name := Str.ofString "header_encode", qualname := Str.ofString "header_encode", params := kA6, body := (FuncBody.stmts kL6), scope := kS6, globals := 3, closure := [], defaults := Value.ref 97, kwdefaults := Value.none,
              pyModule := Value.str (Str.ofString "cpy313.email.quoprimime") 1407, code := Value.ref 103 } }) ::
    (nat_lit 110, { cls := Value.type "tuple", data := Data.seq #[] }) ::
    (nat_lit 112, { cls := Value.type "tuple", data := Data.seq #[Value.str (Str.ofString "match") 1934, Value.str (Str.ofString "s") 1935] }) ::
    (nat_lit 113, { cls := Value.type "tuple", data := Data.seq #[] }) ::
    (nat_lit 115,
      { cls := Value.type "code",
        data :=
          Data.fields
            #[Value.str (Str.ofString "_unquote_match") 1931, Value.str (Str.ofString "_unquote_match") 1932, Value.str (Str.ofString "/claim/cut.py") 1933, Value.int 73 0, Value.int 1 0, Value.int 0 0, Value.int 0 0,
              Value.int 3 0, Value.ref 110, Value.bool true, Value.int 276 0, Value.ref 111, Value.none, Value.ref 112, Value.ref 113, Value.ref 114, Value.int 1936 0, Value.int 73 0,
              Value.str (Str.ofString "/claim/cut.py") 1937] }) ::
    (nat_lit 116,
      { cls := Value.type "function",
        data :=
          Data.func
            { name := Str.ofString "_unquote_match", qualname := Str.ofString "_unquote_match", params := kA7, body := (FuncBody.stmts kL7), scope := kS7, globals := 3, closure := [], defaults := Value.none, kwdefaults := Value.none,
              pyModule := Value.str (Str.ofString "cpy313.email.quoprimime") 1407, code := Value.ref 115 } }) ::
    (nat_lit 117, { cls := Value.type "tuple", data := Data.seq #[] }) ::
    (nat_lit 119, { cls := Value.type "tuple", data := Data.seq #[Value.str (Str.ofString "s") 1942] }) ::
    (nat_lit 120, { cls := Value.type "tuple", data := Data.seq #[] }) ::
    (nat_lit 122,
      { cls := Value.type "code",
        data :=
          Data.fields
            #[Value.str (Str.ofString "header_decode") 1939, Value.str (Str.ofString "header_decode") 1940, Value.str (Str.ofString "/claim/cut.py") 1941, Value.int 76 0, Value.int 1 0, Value.int 0 0, Value.int 0 0, Value.int 3 0,
              Value.ref 117, Value.bool true, Value.int 276 0, Value.ref 118, Value.none, Value.ref 119, Value.ref 120, Value.ref 121, Value.int 1943 0, Value.int 76 0, Value.str (Str.ofString "/claim/cut.py") 1944] }) ::
    (nat_lit 123,
      { cls := Value.type "function",
        data :=
          Data.func
            { name := Str.ofString "header_decode", qualname := Str.ofString "header_decode", params := kA8, body := (FuncBody.stmts kL8), scope := kS8, globals := 3, closure := [], defaults := Value.none, kwdefaults := Value.none,
              pyModule := Value.str (Str.ofString "cpy313.email.quoprimime") 1407, code := Value.ref 122 } }) ::
    (nat_lit 124, { cls := Value.type "tuple", data := Data.seq #[] }) ::
    (nat_lit 126, { cls := Value.type "tuple", data := Data.seq #[Value.str (Str.ofString "mycmp") 1951, Value.str (Str.ofString "K") 1952] }) ::
    (nat_lit 127, { cls := Value.type "tuple", data := Data.seq #[Value.str (Str.ofString "mycmp") 1953] }) ::
    (nat_lit 129,
      { cls := Value.type "code",
        data :=
          Data.fields
            #[Value.str (Str.ofString "cmp_to_key") 1948, Value.str (Str.ofString "cmp_to_key") 1949, Value.str (Str.ofString "/claim/cut.py") 1950, Value.int 80 0, Value.int 1 0, Value.int 0 0, Value.int 0 0, Value.int 3 0,
              Value.ref 124, Value.bool true, Value.int 276 0, Value.ref 125, Value.none, Value.ref 126, Value.ref 127, Value.ref 128, Value.int 1954 0, Value.int 80 0, Value.str (Str.ofString "/claim/cut.py") 1955] }) ::
    (nat_lit 130,
      { cls := Value.type "function",
        data :=
          Data.func
            { name := Str.ofString "cmp_to_key", qualname := Str.ofString "cmp_to_key", params := kA9, body := (FuncBody.stmts kL9), scope := kS9, globals := 3, closure := [], defaults := Value.none, kwdefaults := Value.none,
              pyModule := Value.str (Str.ofString "cpy313.functools") 1946, code := Value.ref 129 } }) ::
    (nat_lit 131, { cls := Value.type "object" }) ::
    (nat_lit 132, { cls := Value.type "tuple", data := Data.seq #[Value.ref 131] }) ::
    (nat_lit 133, { cls := Value.type "tuple", data := Data.seq #[] }) ::
    (nat_lit 135,
      { cls := Value.type "tuple",
        data :=
          Data.seq
            #[Value.str (Str.ofString "function") 1961, Value.str (Str.ofString "sequence") 1962, Value.str (Str.ofString "initial") 1963, Value.str (Str.ofString "it") 1964, Value.str (Str.ofString "value") 1965,
              Value.str (Str.ofString "element") 1966] }) ::
    (nat_lit 136, { cls := Value.type "tuple", data := Data.seq #[] }) ::
    (nat_lit 138,
      { cls := Value.type "code",
        data :=
          Data.fields
            #[Value.str (Str.ofString "reduce") 1958, Value.str (Str.ofString "reduce") 1959, Value.str (Str.ofString "/claim/cut.py") 1960, Value.int 106 0, Value.int 3 0, Value.int 0 0, Value.int 0 0, Value.int 3 0,
              Value.ref 133, Value.bool true, Value.int 276 0, Value.ref 134, Value.none, Value.ref 135, Value.ref 136, Value.ref 137, Value.int 1967 0, Value.int 106 0, Value.str (Str.ofString "/claim/cut.py") 1968] }) ::
    (nat_lit 139,
      { cls := Value.type "function",
        data :=
          Data.func
            { name := Str.ofString "reduce", qualname := Str.ofString "reduce", params := kA10, body := (FuncBody.stmts kL10), scope := kS10, globals := 3, closure := [], defaults := Value.ref 132, kwdefaults := Value.none,
              pyModule := Value.str (Str.ofString "cpy313.functools") 1946, code := Value.ref 138 } }) ::
    (nat_lit 140, { cls := Value.type "tuple", data := Data.seq #[] }) ::
    (nat_lit 142, { cls := Value.type "tuple", data := Data.seq #[Value.str (Str.ofString "a") 1975, Value.str (Str.ofString "b") 1976] }) ::
    (nat_lit 143, { cls := Value.type "tuple", data := Data.seq #[] }) ::
    (nat_lit 145,
      { cls := Value.type "code",
        data :=
          Data.fields
            #[Value.str (Str.ofString "_law_compare") 1972, Value.str (Str.ofString "_law_compare") 1973, Value.str (Str.ofString "/claim/cut.py") 1974, Value.int 119 0, Value.int 2 0, Value.int 0 0, Value.int 0 0, Value.int 3 0,
              Value.ref 140, Value.bool true, Value.int 276 0, Value.ref 141, Value.none, Value.ref 142, Value.ref 143, Value.ref 144, Value.int 1977 0, Value.int 119 0, Value.str (Str.ofString "/claim/cut.py") 1978] }) ::
    (nat_lit 146,
      { cls := Value.type "function",
        data :=
          Data.func
            { name := Str.ofString "_law_compare", qualname := Str.ofString "_law_compare", params := kA11, body := (FuncBody.stmts kL11), scope := kS11, globals := 3, closure := [], defaults := Value.none, kwdefaults := Value.none,
              pyModule := Value.str (Str.ofString "law_il0164_01") 1970, code := Value.ref 145 } }) ::
    (nat_lit 147, { cls := Value.type "tuple", data := Data.seq #[] }) ::
    (nat_lit 149, { cls := Value.type "tuple", data := Data.seq #[Value.str (Str.ofString "parts") 1983, Value.str (Str.ofString "grown") 1984] }) ::
    (nat_lit 150, { cls := Value.type "tuple", data := Data.seq #[Value.str (Str.ofString "parts") 1985, Value.str (Str.ofString "comparer") 1986] }) ::
    (nat_lit 152,
      { cls := Value.type "code",
        data :=
          Data.fields
            #[Value.str (Str.ofString "_law_best") 1980, Value.str (Str.ofString "_law_best") 1981, Value.str (Str.ofString "/claim/cut.py") 1982, Value.int 123 0, Value.int 1 0, Value.int 0 0, Value.int 0 0, Value.int 3 0,
              Value.ref 147, Value.bool true, Value.int 276 0, Value.ref 148, Value.none, Value.ref 149, Value.ref 150, Value.ref 151, Value.int 1987 0, Value.int 123 0, Value.str (Str.ofString "/claim/cut.py") 1988] }) ::
    (nat_lit 153,
      { cls := Value.type "function",
        data :=
          Data.func
            { name := Str.ofString "_law_best", qualname := Str.ofString "_law_best", params := kA12, body := (FuncBody.stmts kL12), scope := kS12, globals := 3, closure := [], defaults := Value.none, kwdefaults := Value.none,
              pyModule := Value.str (Str.ofString "law_il0164_01") 1970, code := Value.ref 152 } }) ::
    (nat_lit 154, { cls := Value.type "tuple", data := Data.seq #[] }) ::
    (nat_lit 157,
      { cls := Value.type "code",
        data :=
          Data.fields
            #[Value.str (Str.ofString "_law_lengths") 1990, Value.str (Str.ofString "_law_lengths") 1991, Value.str (Str.ofString "/claim/cut.py") 1992, Value.int 135 0, Value.int 2 0, Value.int 0 0, Value.int 0 0, Value.int 3 0,
              Value.ref 154, Value.bool true, Value.int 276 0, Value.ref 155, Value.none, Value.none, Value.none, Value.ref 156, Value.int 1993 0, Value.int 135 0, Value.str (Str.ofString "/claim/cut.py") 1994] }) ::
    (nat_lit 158,
      { cls := Value.type "function",
        data :=
          Data.func
            { name := Str.ofString "_law_lengths", qualname := Str.ofString "_law_lengths", params := kA13, body := (FuncBody.stmts kL13), scope := kS13, globals := 3, closure := [], defaults := Value.none, kwdefaults := Value.none,
              pyModule := Value.str (Str.ofString "law_il0164_01") 1970, code := Value.ref 157 } }) ::
    (nat_lit 159, { cls := Value.type "tuple", data := Data.seq #[] }) ::
    (nat_lit 161,
      { cls := Value.type "tuple",
        data :=
          Data.seq
            #[Value.str (Str.ofString "signs") 1999, Value.str (Str.ofString "letters") 2000, Value.str (Str.ofString "octets") 2001, Value.str (Str.ofString "place") 2002, Value.str (Str.ofString "whole") 2003,
              Value.str (Str.ofString "sign") 2004] }) ::
    (nat_lit 162, { cls := Value.type "tuple", data := Data.seq #[] }) ::
    (nat_lit 164,
      { cls := Value.type "code",
        data :=
          Data.fields
            #[Value.str (Str.ofString "_law_threes") 1996, Value.str (Str.ofString "_law_threes") 1997, Value.str (Str.ofString "/claim/cut.py") 1998, Value.int 148 0, Value.int 1 0, Value.int 0 0, Value.int 0 0, Value.int 3 0,
              Value.ref 159, Value.bool true, Value.int 276 0, Value.ref 160, Value.none, Value.ref 161, Value.ref 162, Value.ref 163, Value.int 2005 0, Value.int 148 0, Value.str (Str.ofString "/claim/cut.py") 2006] }) ::
    (nat_lit 165,
      { cls := Value.type "function",
        data :=
          Data.func
            { name := Str.ofString "_law_threes", qualname := Str.ofString "_law_threes", params := kA14, body := (FuncBody.stmts kL14), scope := kS14, globals := 3, closure := [], defaults := Value.none, kwdefaults := Value.none,
              pyModule := Value.str (Str.ofString "law_il0164_01") 1970, code := Value.ref 164 } }) ::
    (nat_lit 166, { cls := Value.type "tuple", data := Data.seq #[] }) ::
    (nat_lit 169,
      { cls := Value.type "code",
        data :=
          Data.fields
            #[Value.str (Str.ofString "_law_read") 2008, Value.str (Str.ofString "_law_read") 2009, Value.str (Str.ofString "/claim/cut.py") 2010, Value.int 157 0, Value.int 1 0, Value.int 0 0, Value.int 0 0, Value.int 3 0,
              Value.ref 166, Value.bool true, Value.int 276 0, Value.ref 167, Value.none, Value.none, Value.none, Value.ref 168, Value.int 2011 0, Value.int 157 0, Value.str (Str.ofString "/claim/cut.py") 2012] }) ::
    (nat_lit 170,
      { cls := Value.type "function",
        data :=
          Data.func
            { name := Str.ofString "_law_read", qualname := Str.ofString "_law_read", params := kA15, body := (FuncBody.stmts kL15), scope := kS15, globals := 3, closure := [], defaults := Value.none, kwdefaults := Value.none,
              pyModule := Value.str (Str.ofString "law_il0164_01") 1970, code := Value.ref 169 } }) ::
    (nat_lit 171, { cls := Value.type "tuple", data := Data.seq #[] }) ::
    (nat_lit 174,
      { cls := Value.type "code",
        data :=
          Data.fields
            #[Value.str (Str.ofString "law") 2014, Value.str (Str.ofString "law") 2015, Value.str (Str.ofString "/claim/cut.py") 2016, Value.int 165 0, Value.int 1 0, Value.int 0 0, Value.int 0 0, Value.int 3 0, Value.ref 171,
              Value.bool true, Value.int 276 0, Value.ref 172, Value.none, Value.none, Value.none, Value.ref 173, Value.int 2017 0, Value.int 165 0, Value.str (Str.ofString "/claim/cut.py") 2018] }) ::
    (nat_lit 175,
      { cls := Value.type "function",
        data :=
          Data.func
            { name := Str.ofString "law", qualname := Str.ofString "law", params := kA16, body := (FuncBody.stmts kL16), scope := kS16, globals := 3, closure := [], defaults := Value.none, kwdefaults := Value.none,
              pyModule := Value.str (Str.ofString "law_il0164_01") 1970, code := Value.ref 174 } }) :: []) => K) _ (by delta kA0 kL0 kS0 kA1 kL1 kS1 kA2 kL2 kS2 kA3 kL3 kS3 kA4 kL4 kS4 kA5 kL5 kS5 kA6 kL6 kS6 kA7 kL7 kS7 kA8 kL8 kS8 kA9 kL9 kS9 kA10 kL10 kS10 kA11 kL11 kS11 kA12 kL12 kS12 kA13 kL13 kS13 kA14 kL14 kS14 kA15 kL15 kS15 kA16 kL16 kS16; exact rfl)
noncomputable def hd.view_39 : Program := { prg with main := { prg.main with body := [0, 1, 3, 4, 5, 9, 10, 11, 12, 13, 14, 15, 16, 21, 23, 26, 27, 29, 30, 33, 34, 35, 36, 37, 38].filterMap (prg.main.body[·]?) } }
abbrev hLoose : List Str := [Str.ofString "b2a_base64", Str.ofString "b64encode", Str.ofString "_twin_re_1", Str.ofString "_QUOPRI_MAP", Str.ofString "_QUOPRI_HEADER_MAP", Str.ofString "_QUOPRI_BODY_MAP", Str.ofString "ascii_letters", Str.ofString "header_encode", Str.ofString "_QUOPRI_BODY_ENCODE_MAP", Str.ofString "_initial_missing", Str.ofString "reduce"]
abbrev hLv : List (Str × WData) := [(Str.ofString "ascii_letters", WData.str ⟨#[97, 98, 99, 100, 101, 102, 103, 104, 105, 106, 107, 108, 109, 110, 111, 112, 113, 114, 115, 116, 117, 118, 119, 120, 121, 122, 65, 66, 67, 68, 69, 70, 71, 72, 73, 74, 75, 76, 77, 78, 79, 80, 81, 82, 83, 84, 85, 86, 87, 88, 89, 90]⟩)]
abbrev hAs : List Addr := [2, 3, 32, 34, 35, 37, 38, 39, 41, 42, 44, 45, 46, 48, 49, 51, 52, 53, 54, 56, 57, 59, 60, 61, 62, 64, 65, 67, 68, 72, 73, 81, 90, 92, 93, 95, 96, 97, 98, 100, 101, 103, 104, 110, 112, 113, 115, 116, 117, 119, 120, 122, 123, 124, 126, 127, 129, 130, 131, 132, 133, 135, 136, 138, 139, 140, 142, 143, 145, 146, 147, 149, 150, 152, 153, 154, 157, 158, 159, 161, 162, 164, 165, 166, 169, 170, 171, 174, 175]
theorem hAs_is (P : Params) : hAs = (hd.heap_39 P).map (·.1) := by kernel_rfl
noncomputable abbrev hHook : Hook := kmHook hd.heap_39 hAs hAs_is [nat_lit 125, nat_lit 148]
noncomputable def hEnv : Env := { scope := prg.main.scope, locals := mainNs, globals := mainNs, cells := [], code := .ref 30, frame := some 31 }
noncomputable def hBody : List Stmt := behindTheImports prg
noncomputable abbrev hCode : Code := .body hBody hEnv
abbrev hP0 : Pos := ⟨0, 0, 0, 0⟩
noncomputable def hSts1 : List Stmt := hBody.take 9
noncomputable def hSts2 : List Stmt := (hBody.drop 9).take 1
noncomputable def hSts3 : List Stmt := (hBody.drop 10).take 9
noncomputable def hSts4 : List Stmt := hBody.drop 19
theorem hSts_is : hBody = hSts1 ++ (hSts2 ++ (hSts3 ++ (hSts4 ++ []))) := by kernel_rfl
noncomputable def hS (T : Params → BT) (n k : Nat) (w : World) (os : OsState) : SharedT := ⟨T w.params, n, {}, #[], {}, k, os⟩
noncomputable def hRun (T T' : Params → BT) (n k n' k' N : Nat) (l : List Stmt) (a b : Pos) (w : World) : Prop := (fun os => segRunT treeTable prg w 28 (some (.ref 6)) 1 N (hS T n k w os) (piecesOf l hEnv hCode a [topFrame hP0])) = fun os => some (.next, hS T' n' k' w os, hCode, b)

noncomputable abbrev hQ1 : World → Prop := hRun ht72 ht116 32 282 74 369 267 hSts1 ⟨0, 0, 0, 0⟩ ⟨48, 0, 48, 10⟩
theorem segGoT_run {tb : String → Option Builtin} {p : Program} {w : World} {n₀ : Nat} {ann : Option Value} {b : Nat} : ∀ {n N : Nat} {s s' : SharedT} {t t' : Thread} {r : Flow × SharedT × Code × Pos}, segGoT tb p w n₀ ann b n s t = some (s', t') →
    segRunT tb p w n₀ ann b N s' t' = some r → segRunT tb p w n₀ ann b (n + N) s t = some r
  | 0, N, s, s', t, t', r, h, k => by
    cases h
    rw [Nat.zero_add]; exact k
  | n + 1, N, s, s', t, t', r, h, k => by
    rw [Nat.succ_add]
    unfold segGoT at h
    unfold segRunT
    cases he : endAt b t with
    | some f => rw [he] at h; cases h
    | none =>
      rw [he] at h
      cases hk : stepOk n₀ ann t with
      | false => rw [hk] at h; cases h
      | true =>
        rw [hk] at h
        cases hs : stepT (denote tb) p w s t with
        | none => rw [hs] at h; cases h
        | some q => obtain ⟨s₂, t₂⟩ := q; rw [hs] at h; exact segGoT_run h k
theorem segRunT_mono {tb : String → Option Builtin} {p : Program} {w : World} {n₀ : Nat} {ann : Option Value} {b : Nat} (k : Nat) : ∀ {n : Nat} {s : SharedT} {t : Thread} {r : Flow × SharedT × Code × Pos}, segRunT tb p w n₀ ann b n s t = some r → segRunT tb p w n₀ ann b (n + k) s t = some r
  | 0, _, _, _, h => by cases h
  | n + 1, s, t, r, h => by
    rw [Nat.succ_add]
    unfold segRunT at h ⊢
    cases he : endAt b t with
    | some f => rw [he] at h; exact h
    | none =>
      rw [he] at h
      cases hk : stepOk n₀ ann t with
      | false => rw [hk] at h; cases h
      | true =>
        rw [hk] at h
        cases hs : stepT (denote tb) p w s t with
        | none => rw [hs] at h; cases h
        | some q => obtain ⟨s₂, t₂⟩ := q; rw [hs] at h; exact segRunT_mono k h
abbrev rSp : String := "special-get-raises"
abbrev rCi : String := "comprehension-iter-twice"
noncomputable def hG (T : Params → BT) (n k K : Nat) (l : List Stmt) (a : Pos) (v w : World) (os : OsState) : Option (SharedT × Thread) := segGoT treeTable prg v 28 (some (.ref 6)) 1 K (hS T n k w os) (piecesOf l hEnv hCode a [topFrame hP0])
noncomputable def hThen (N : Nat) (v : World) (x : SharedT × Thread) : Option (Flow × SharedT × Code × Pos) := segRunT treeTable prg v 28 (some (.ref 6)) 1 N x.1 x.2
noncomputable abbrev hEnd (T' : Params → BT) (n' k' : Nat) (b : Pos) (w : World) (os : OsState) : Option (Flow × SharedT × Code × Pos) := some (.next, hS T' n' k' w os, hCode, b)
noncomputable def wF (b c : Bool) (w : World) : World := (w.withFollow rSp c).withFollow rCi b
theorem wF_self (w : World) : wF (w.params.followText rCi) (w.params.followText rSp) w = w := by unfold wF; rw [World.withFollow_self, World.withFollow_self]
theorem opt_bs {α : Type} {a : Option α} : a.bind some = a := by cases a <;> rfl
theorem hJoin {w u : World} {K K' N : Nat} {s : SharedT} {t : Thread} {r : Flow × SharedT × Code × Pos} (hp : (segGoT treeTable prg w 28 (some (.ref 6)) 1 K s t).bind some = segGoT treeTable prg u 28 (some (.ref 6)) 1 K' s t)
    (hm : (segGoT treeTable prg u 28 (some (.ref 6)) 1 K' s t).bind (hThen N w) = some r) : segRunT treeTable prg w 28 (some (.ref 6)) 1 (K + N) s t = some r := by
  obtain ⟨⟨s1, t1⟩, e, k⟩ := Option.bind_eq_some_iff.mp hm
  rw [e, opt_bs] at hp
  exact segGoT_run hp k
theorem hBase (w : World) : hQ1 w ∧ (∀ (b c : Bool) (os : OsState), (hG ht116 74 369 (bif b then 78 else 88) hSts2 ⟨48, 0, 48, 10⟩ (wF b c w) w os).bind some = hG ht116 74 369 78 hSts2 ⟨48, 0, 48, 10⟩ (wF true true w) w os) ∧ (∀ os : OsState, (hG ht123 80 1397 160 hSts3 ⟨49, 0, 49, 11⟩ (w.withFollow rSp false) w os).bind some = hG ht123 80 1397 160 hSts3 ⟨49, 0, 49, 11⟩ (w.withFollow rSp true) w os) ∧ (∀ os : OsState, (hG ht133 87 1620 10 hSts4 ⟨59, 0, 59, 28⟩ (w.withFollow rSp false) w os).bind some = hG ht133 87 1620 10 hSts4 ⟨59, 0, 59, 28⟩ (w.withFollow rSp true) w os) := by
  refine ⟨?_, ?_, ?_, ?_⟩
  · unfold hQ1 hRun; kernel_rfl
  · intro b c os; cases b <;> cases c <;> kernel_rfl
  · intro os; kernel_rfl
  · intro os; kernel_rfl
theorem hq1 (w : World) : hQ1 w := (hBase w).1
theorem hP2 (b c : Bool) (w : World) (os : OsState) : (hG ht116 74 369 (bif b then 78 else 88) hSts2 ⟨48, 0, 48, 10⟩ (wF b c w) w os).bind some = hG ht116 74 369 78 hSts2 ⟨48, 0, 48, 10⟩ (wF true true w) w os := (hBase w).2.1 b c os
theorem hP3 (w : World) (os : OsState) : (hG ht123 80 1397 160 hSts3 ⟨49, 0, 49, 11⟩ (w.withFollow rSp false) w os).bind some = hG ht123 80 1397 160 hSts3 ⟨49, 0, 49, 11⟩ (w.withFollow rSp true) w os := (hBase w).2.2.1 os
theorem hP4 (w : World) (os : OsState) : (hG ht133 87 1620 10 hSts4 ⟨59, 0, 59, 28⟩ (w.withFollow rSp false) w os).bind some = hG ht133 87 1620 10 hSts4 ⟨59, 0, 59, 28⟩ (w.withFollow rSp true) w os := (hBase w).2.2.2 os
noncomputable def hX (w : World) (os : OsState) : Option (SharedT × Thread) := hG ht116 74 369 78 hSts2 ⟨48, 0, 48, 10⟩ (wF true true w) w os
noncomputable def hX1 (w : World) (os : OsState) : SharedT × Thread := match hX w os with | some x => x | none => (hS ht116 74 369 w os, ⟨.pure (.done .next), hCode, hP0, []⟩)
def hexd (d : Nat) : Nat := bif Nat.blt d 10 then 48 + d else 55 + d
def hStr (i : Nat) : Value := .str ⟨#[61, hexd (i / 16), hexd (i % 16)]⟩ (375 + 4 * i)
def hLst (j : Nat) : Obj := ⟨.type "list", none, .seq ((List.range j).map hStr).toArray j, #[]⟩
def hItr (j : Nat) : Obj := ⟨.type "range_iterator", none, .fields #[.int j 0, .int ((256 : Int) - j) 0, .int 1 0], #[]⟩
noncomputable def hSt (j : Nat) (w : World) (os : OsState) : SharedT :=
  ⟨(((hX1 w os).1.tree.set 75 fun _ => hItr j).set 76 fun _ => hLst j).set 77 fun o => o.mapDict fun es => es.map fun e => { e with val := .int ((j : Int) - 1) (368 + 4 * j) }, 78, {}, #[], {}, 372 + 4 * j, os⟩
theorem hM2a (w : World) (os : OsState) : (hX w os).bind (fun x => segGoT treeTable prg w 28 (some (.ref 6)) 1 3145 x.1 x.2) = some (hSt 86 w os, (hX1 w os).2) := by kernel_rfl
theorem hM2b (w : World) (os : OsState) : (segGoT treeTable prg w 28 (some (.ref 6)) 1 3145 (hSt 86 w os) (hX1 w os).2).bind some = some (hSt 171 w os, (hX1 w os).2) := by kernel_rfl
theorem hM2c (w : World) (os : OsState) : segRunT treeTable prg w 28 (some (.ref 6)) 1 3174 (hSt 171 w os) (hX1 w os).2 = hEnd ht123 80 1397 ⟨49, 0, 49, 11⟩ w os := by kernel_rfl
theorem hM2 (w : World) (os : OsState) : (hG ht116 74 369 78 hSts2 ⟨48, 0, 48, 10⟩ (wF true true w) w os).bind (hThen 9464 w) = hEnd ht123 80 1397 ⟨49, 0, 49, 11⟩ w os := by
  obtain ⟨x, e, k⟩ := Option.bind_eq_some_iff.mp (hM2a w os)
  have b := hM2b w os
  rw [opt_bs] at b
  refine (congrArg (fun z => Option.bind z (hThen 9464 w)) e).trans ?_
  exact segGoT_run (n := 3145) (N := 6319) k (segGoT_run (n := 3145) (N := 3174) b (hM2c w os))
noncomputable abbrev hQ2 : World → Prop := hRun ht116 ht123 74 369 80 1397 9552 hSts2 ⟨48, 0, 48, 10⟩ ⟨49, 0, 49, 11⟩
theorem hq2 (w : World) : hQ2 w := by
  refine funext fun os => ?_
  have hp := hP2 (w.params.followText rCi) (w.params.followText rSp) w os
  rw [wF_self] at hp
  have k := hJoin hp (hM2 w os)
  cases hb : w.params.followText rCi with
  | false => rw [hb] at k; exact k
  | true => rw [hb] at k; exact segRunT_mono 10 k
theorem hM3 (w : World) (os : OsState) : (hG ht123 80 1397 160 hSts3 ⟨49, 0, 49, 11⟩ (w.withFollow rSp true) w os).bind (hThen 3049 w) = hEnd ht133 87 1620 ⟨59, 0, 59, 28⟩ w os := by kernel_rfl
noncomputable abbrev hQ3 : World → Prop := hRun ht123 ht133 80 1397 87 1620 3209 hSts3 ⟨49, 0, 49, 11⟩ ⟨59, 0, 59, 28⟩
theorem hq3 (w : World) : hQ3 w := by
  refine funext fun os => ?_
  have e := World.withFollow_self w rSp
  cases hb : w.params.followText rSp with
  | false => rw [hb] at e; have hp := hP3 w os; rw [e] at hp; exact hJoin hp (hM3 w os)
  | true => rw [hb] at e; have hm := hM3 w os; rw [e] at hm; exact hJoin opt_bs hm
noncomputable def hMid (w : World) (x : SharedT × Thread) : Option (SharedT × Thread) := segGoT treeTable prg w 28 (some (.ref 6)) 1 4378 x.1 x.2
theorem hM4 (w : World) (os : OsState) : ((hG ht133 87 1620 10 hSts4 ⟨59, 0, 59, 28⟩ (w.withFollow rSp true) w os).bind (hMid w)).bind (hThen 472 (w.withFollow rSp false)) = hEnd ht225 176 2020 ⟨165, 0, 179, 54⟩ w os ∧
    ((hG ht133 87 1620 10 hSts4 ⟨59, 0, 59, 28⟩ (w.withFollow rSp true) w os).bind (hMid w)).bind (hThen 472 (w.withFollow rSp true)) = hEnd ht225 176 2020 ⟨165, 0, 179, 54⟩ w os := by constructor <;> kernel_rfl
noncomputable abbrev hQ4 : World → Prop := hRun ht133 ht225 87 1620 176 2020 4860 hSts4 ⟨59, 0, 59, 28⟩ ⟨165, 0, 179, 54⟩
theorem hMid_run {w u : World} {s : SharedT} {t : Thread} {r : Flow × SharedT × Code × Pos} (hp : (segGoT treeTable prg w 28 (some (.ref 6)) 1 10 s t).bind some = segGoT treeTable prg u 28 (some (.ref 6)) 1 10 s t)
    (hm : ((segGoT treeTable prg u 28 (some (.ref 6)) 1 10 s t).bind (hMid w)).bind (hThen 472 w) = some r) : segRunT treeTable prg w 28 (some (.ref 6)) 1 4860 s t = some r := by
  obtain ⟨⟨s2, t2⟩, e2, k⟩ := Option.bind_eq_some_iff.mp hm
  obtain ⟨⟨s1, t1⟩, e1, e2⟩ := Option.bind_eq_some_iff.mp e2
  rw [e1, opt_bs] at hp
  exact segGoT_run (n := 10) (N := 4850) hp (segGoT_run (n := 4378) (N := 472) e2 k)
theorem hq4 (w : World) : hQ4 w := by
  refine funext fun os => ?_
  have e := World.withFollow_self w rSp
  have hm := hM4 w os
  cases hb : w.params.followText rSp with
  | false => rw [hb] at e; have hp := hP4 w os; have hm := hm.1; rw [e] at hp hm; exact hMid_run hp hm
  | true => rw [hb] at e; have hm := hm.2; rw [e] at hm; exact hMid_run opt_bs hm
theorem hpre (w : World) : (fun os => topGo treeTable prg w 28 (some (.ref 6)) 12 ⟨hh68 w.params, #[], {}, 276, os⟩ (topStub prg)) = fun os => some (⟨hh72 w.params, #[], {}, 282, os⟩, ⟨denote treeTable hCode, hCode, hP0, [topFrame hP0]⟩) := by kernel_rfl
theorem hblk (w : World) : (fun os => segRun treeTable prg w 28 (some (.ref 6)) 1 1 ⟨hh72 w.params, #[], {}, 282, os⟩ (blockOf hBody hEnv hCode hP0 [topFrame hP0])) = fun os => some (.next, (hS ht72 32 282 w os).abs, hCode, hP0) := by kernel_rfl
theorem hfin (w : World) : (fun os => topRun treeTable prg w 28 (some (.ref 6)) 2 (hS ht225 176 2020 w os).abs ⟨doneF .next, hCode, ⟨165, 0, 179, 54⟩, [topFrame hP0]⟩) = fun os => some ⟨hh226 w.params, #[], {}, 2020, os⟩ := by kernel_rfl
theorem hrest (w : World) (os : OsState) : topRun treeTable prg w 28 (some (.ref 6)) (267 + (9552 + (3209 + (4860 + 2)))) (hS ht72 32 282 w os).abs (restOf hBody hEnv hCode hP0 [topFrame hP0]) = some ⟨hh226 w.params, #[], {}, 2020, os⟩ := by
  have k := piece_app (segRun_of (congrFun (hq1 w) os)) (piece_app (segRun_of (congrFun (hq2 w) os)) (piece_app (segRun_of (congrFun (hq3 w) os)) (piece_app (segRun_of (congrFun (hq4 w) os)) (piece_nil (congrFun (hfin w) os)))))
  rw [← hSts_is] at k
  exact k
theorem hrun (w : World) (os : OsState) : topRun treeTable prg w 28 (some (.ref 6)) (12 + (1 + (267 + (9552 + (3209 + (4860 + 2)))))) ⟨hh68 w.params, #[], {}, 276, os⟩ (topStub prg) = some ⟨hh226 w.params, #[], {}, 2020, os⟩ :=
  go_top (congrFun (hpre w) os) (piece_block (congrFun (hblk w) os) (hrest w os))
theorem hopen (w : World) : (fencedOpening treeTable prg w 35894).map (fun s => (s.heap, s.gens, s.drawn, s.toks)) = some (hh68 w.params, #[], {}, 276) := by kernel_rfl
theorem hsize (w : World) : ((hh68 w.params).isNs mainGlobals && (#[] : Array GenState).size == 0, (hh68 w.params).objs.size, (hh68 w.params).nsMap mainGlobals "__annotations__") = (true, 28, some (.ref 6)) := by kernel_rfl
theorem hlooks (w : World) : (fun os => ((staticsOk (importedModules prg.main.body) (hh68 w.params) (hh226 w.params) && namesBound prg (hh226 w.params) && gensDone ⟨hh226 w.params, #[], {}, 2020, os⟩ && laidKept (hh68 w.params) (hh226 w.params)),
    openSeen hd.view_39 hLoose (importedModules prg.main.body) (fun s => xlAt hd.view_39 hLv s && recOk PySem.Challenge.rw_il0164_01.row.toRowW.records s) true ⟨hh226 w.params, #[], {}, 2020, os⟩, hHook.obs ⟨hh226 w.params, #[], {}, 2020, os⟩)) = fun _ => (true, openGood hd.view_39 hLoose, hHook.val w) := by kernel_rfl
theorem hleft : LeftO prg hd.view_39 hLoose (fun s => xlAt hd.view_39 hLv s && recOk PySem.Challenge.rw_il0164_01.row.toRowW.records s) hHook.obs hHook.val 35894 :=
  LeftO.of_pieces (H₀ := hh68) (H₁ := hh226) hopen hsize hrun (by decide) hlooks
end Mine
-- Said
namespace Mine
set_option compiler.extract_closed false
set_option maxRecDepth 100000
set_option maxHeartbeats 8000000
theorem said_1 : sreFenced PySem.Challenge.rw_il0164_01.row.prog.main = true := by kernel_rfl
theorem said_2 : ((moduleNames PySem.Challenge.rw_il0164_01.row.prog.main.body).isEmpty || lookedIntoSs (moduleNames PySem.Challenge.rw_il0164_01.row.prog.main.body) PySem.Challenge.rw_il0164_01.row.prog.main.body) = true := by kernel_rfl
theorem said_3 : namesResolve PySem.Challenge.rw_il0164_01.row.prog = true := by kernel_rfl
theorem said_4 : (PySem.Challenge.rw_il0164_01.row.prog.boundNames.all fun n => !worldNames.contains n) = true := by kernel_rfl
theorem said_5 : noRoadLSs { strict := !(importedModules PySem.Challenge.rw_il0164_01.row.prog.main.body).all cThrough.contains, foot := none, bare := (["vars", "dir", "locals"] : List Str).filter (readsOut PySem.Challenge.rw_il0164_01.row.prog PySem.Challenge.rw_il0164_01.row.prog.main.body) } PySem.Challenge.rw_il0164_01.row.prog.main.body = true := by kernel_rfl
theorem said_6 : (namesMeet PySem.Challenge.rw_il0164_01.row.prog PySem.Challenge.rw_il0164_01.row.prog.main.body fun _ n => attrL n) = true := by kernel_rfl
theorem said_l : looksOpen PySem.Challenge.rw_il0164_01.row.prog = true := look_both (look_both (look_both (look_both (look_both said_1 said_2) said_3) said_4) said_5) said_6
theorem hsaid : PySem.W.OpenLaw.wellSaid PySem.Challenge.rw_il0164_01 = true := by
  delta OpenLaw.wellSaid
  repeat' (with_reducible refine look_both ?_ ?_)
  all_goals try (delta OpenRow.wellSaid)
  all_goals try (repeat' (with_reducible refine look_both ?_ ?_))
  all_goals try (delta OpenRow.partSaid)
  all_goals try (repeat' (with_reducible refine look_both ?_ ?_))
  all_goals first | with_reducible exact said_l | kernel_rfl
end Mine
-- Zipc
namespace Mine
set_option compiler.extract_closed false
set_option maxRecDepth 100000
set_option maxHeartbeats 8000000
local macro_rules | `(tactic| omega) => `(tactic| first | lia | omega (config := {}))
section
open PyProof.Rows.LCg PyProof.V
variable {prog : Program} {w : World} {A : Around} {E : Value → Shared → Prop} {s : Shared} {h₀ : Heap} {L : Addr} {m : Str → Option Value} {env : Env}
inductive PairsAt (prog : Program) (w : World) (A : Around) (h₀ : Heap) (L : Addr) (m : Str → Option Value) (env : Env) (elt target : PySem.Expr) (a b : Str) (scope : Scope) (cl : List (Str × Addr)) (Fin : Shared → List Value → List (Addr × Obj) → Prop) (it : Value) (s₂ : Shared) : Prop
  | mk (I : Addr) (fp wr : List Addr) (n : Nat) (P Md : Nat → Value → Heap → Prop) (St : Nat → Heap → Prop) (news : List (Addr × Obj)) (R : Nat → Value → Prop)
    (e : it = .ref I) (hh : A.handled = none) (W : KTurns prog w A target I fp wr n P Md St) (self : ∀ i (s : Shared) (Q : Value → Shared → Prop) (E : Value → Shared → Prop), St i s.heap → Q (.ref I) s → wpAny (model prog w) A (pyIter (.ref I)) Q E s)
    (hLf : L ∉ fp) (hwr : ∀ b ∈ wr, h₀.get? b = none) (hfp : ∀ b ∈ fp, b < s₂.heap.objs.size) (hnw : ∀ p ∈ news, p.1 ∉ wr) (hsz : n ≤ sizeLine) (hst : St 0 s₂.heap) (F : Fr h₀ L s₂.heap m) (N : News h₀ L s₂.heap news)
    (turn : ∀ i v h₁, i < n → P i v h₁ → ∃ T x y, v = .ref T ∧ h₁.IsTuple T #[x, y] ∧
      ∀ C oC D m₂ ys own h tk (E' : Value → Shared → Prop), NsObj oC m₂ → m₂ a = some x → m₂ b = some y → Fr h₀ L h m → News h₀ L h ((C, oC) :: (D, lst ys) :: (own ++ news)) →
        wpAny (model prog w) A (eval elt (compEnvC scope cl C env)) (fun r s' => (∃ h' tk', s' = { s₂ with heap := h', toks := tk' } ∧ Fr h₀ L h' m ∧ News h₀ L h' ((C, oC) :: (D, lst ys) :: (own ++ news))) ∧ R i r) E' { s₂ with heap := h, toks := tk })
    (fin : ∀ ys, ys.length = n → (∀ i y, ys[i]? = some y → R i y) → Fin s₂ ys news) : PairsAt prog w A h₀ L m env elt target a b scope cl Fin it s₂
inductive ZInv (n : Nat) (s₂ : Shared) (h₀ : Heap) (L D C : Addr) (m : Str → Option Value) (St : Nat → Heap → Prop) (news : List (Addr × Obj)) (R : Nat → Value → Prop) (k : Nat) (s' : Shared) : Prop
  | mk (h' : Heap) (tk i : Nat) (ys : List Value) (m' : Str → Option Value) (e : s' = { s₂ with heap := h', toks := tk }) (hi : i ≤ n) (hk : k = n + 1 - i) (hyl : ys.length = i) (hst : St i h') (F : Fr h₀ L h' m) (hn : h'.Ns C m') (N : News h₀ L h' ((D, lst ys) :: news)) (hR : ∀ j y, ys[j]? = some y → R j y) : ZInv n s₂ h₀ L D C m St news R k s'
theorem block_Z {elt iter : PySem.Expr} {a b : Str} {pa pb tp : Pos} {kk : Nat} {scope : Scope} {cl : List (Str × Addr)} {pos : Pos} {s₂ : Shared} {it : Value} {Fin : Shared → List Value → List (Addr × Obj) → Prop} {RR : Value → Addr → Result → Shared → Prop}
    (hcell : ∀ y ∈ scope.names, y.2 ≠ .cell) (hkind : scope.kind = .function) (hxa : scope.names.lookup a = some .local) (hxb : scope.names.lookup b = some .local) (hab : ¬ a = b)
    (H : PairsAt prog w A h₀ L m env elt (.Tuple [.Name a pa, .Name b pb] kk tp) a b scope cl Fin it s₂)
    (hRR : ∀ D C h tk m' ys news', Fr h₀ L h m → News h₀ L h ((D, lst ys) :: news') → Off1 D news' → h.Ns C m' → h₀.get? C = none → h₀.get? D = none → C ≠ L → D ≠ L → C ≠ D → (∀ p ∈ news', p.1 ≠ C) → Fin s₂ ys news' → RR (.ref D) C (.ok .next) { s₂ with heap := h, toks := tk }) :
    wpAny (model prog w) A (newList []) (fun acc s₃ => wpAny (model prog w) A (newFunctionEnv scope env.globals cl [] env.qual none .none (some env)) (fun cenv s₄ =>
      codeAny (model prog w) A (.compStart (.ListComp elt [⟨.Tuple [.Name a pa, .Name b pb] kk tp, iter, [], 0⟩] scope pos) 0 it acc { cenv with scope := relabel scope env }) (RR acc cenv.locals) s₄) E s₃) E s₂ := by
  obtain ⟨I, fp, wr, n, P, Md, St, news, R, rfl, hh, W, self, hLf, hwr, hfp, hnw, hsz, hst, F, N, turn, fin⟩ := H
  refine wpAny_newObj_type (wpAny_newFunctionEnv hcell (by intro y hy; simp at hy) (fun h₁ hns₁ hsb₁ => ?_) hkind)
  dsimp only at hns₁ hsb₁ ⊢
  generalize hH2 : s₂.heap.push { cls := .type "list", dict := none, data := .seq ([] : List Value).toArray } = H2 at hns₁ hsb₁ ⊢
  have hC : H2.objs.size = s₂.heap.objs.size + 1 := by rw [← hH2, Heap.size_push]
  generalize hDe : s₂.heap.objs.size = D at *
  generalize hCe : H2.objs.size = C at *
  have hCD : C ≠ D := by rw [hC]; exact Nat.succ_ne_self _
  have lt1 : ∀ b, b < D → b ≠ C ∧ b ≠ D := fun b hb => ⟨by rw [hC]; exact Nat.ne_of_lt (Nat.lt_succ_of_lt hb), Nat.ne_of_lt hb⟩
  have up : ∀ b o, s₂.heap.get? b = some o → h₁.get? b = some o := fun b o e => hsb₁.extBut b o (lt1 b (hDe ▸ Heap.lt_size e)).1 (Heap.get?_push_of_some _ (hH2 ▸ Heap.get?_push_of_some _ e))
  have hacc : h₁.get? D = some (lst []) := hsb₁.extBut _ _ (Ne.symm hCD) (Heap.get?_push_of_some _ (by rw [← hH2, ← hDe]; exact Heap.get?_push_size _ rfl))
  have fresh₀ : ∀ a, D ≤ a → h₀.get? a = none := fun a ha => by
    cases e : h₀.get? a with
    | none => rfl
    | some o => exact absurd (Heap.lt_size (F.keep a o e)) (by rw [hDe]; exact Nat.not_lt.mpr ha)
  have hD₀ : h₀.get? D = none := fresh₀ _ (Nat.le_refl _)
  have hC₀ : h₀.get? C = none := fresh₀ _ (by rw [hC]; exact Nat.le_succ _)
  have hLD : L < D := hDe ▸ F.ns.lt
  have hDL : D ≠ L := Ne.symm (lt1 L hLD).2
  have hCL : C ≠ L := Ne.symm (lt1 L hLD).1
  have hDf : D ∉ fp := fun h => Nat.lt_irrefl _ (hfp _ h)
  have hCf : C ∉ fp := fun h => (lt1 C (hfp _ h)).1 rfl
  have hDw : D ∉ wr := fun h => hDf (W.sub _ h)
  have hCw : C ∉ wr := fun h => hCf (W.sub _ h)
  have hLw : L ∉ wr := fun h => hLf (W.sub _ h)
  have offN : ∀ p ∈ news, p.1 ≠ C ∧ p.1 ≠ D := fun p hp => lt1 _ (hDe ▸ Heap.lt_size (N p hp).1)
  have oldw : ∀ b o, h₀.get? b = some o → b ∉ wr := fun b o e hb => by rw [hwr b hb] at e; cases e
  have loop : ∀ s₃ : Shared, s₃ = { s₂ with heap := h₁, toks := s₂.toks + ([] : List (Str × Value)).length } →
      codeAny (model prog w) A (.compLoop (.ListComp elt [⟨.Tuple [.Name a pa, .Name b pb] kk tp, iter, [], 0⟩] scope pos) 0 (.ref I) (.ref D) (compEnvC scope cl C env)) (RR (.ref D) C) s₃ := by
    rintro s₃ rfl
    refine kcp_loop
      (ZInv n s₂ h₀ L D C m St news R) ?_ (n + 1)
      ⟨h₁, _, 0, [], _, rfl, Nat.zero_le _, rfl, rfl, W.frame _ _ _ hst fun b _ o e => up b o e, F.keeps up, hns₁, fun p hp => ?_, fun j y e => by simp at e⟩
    · rintro k s' ⟨h', tk, i, ys, m', rfl, hi, rfl, hyl, hst', F', hn', N', hR⟩
      by_cases hlt : i < n
      · refine W.item i _ _ _ hlt hst' fun v h₂ tk₂ hMd hk₂ => ?_
        refine W.go i v _ _ _ hMd fun h₃ hP hst₃ hk₃ => ?_
        have k3 : ∀ b o, b ∉ wr → h'.get? b = some o → h₃.get? b = some o := fun b o hb e => hk₃ b o hb (hk₂ b o hb e)
        obtain ⟨T, x, y, rfl, hT, tr⟩ := turn i v h₃ hlt hP
        refine kcp_assign hh hT (lookup_relabel_local hxa) (lookup_relabel_local hxb) (by simp [compEnvC, relabel, hkind]) (hn'.at' fun o e => k3 _ o hCw e) fun h₄ tk₄ hn₄ hk₄ => ?_
        have k4 : ∀ b o, b ≠ C → b ∉ wr → h'.get? b = some o → h₄.get? b = some o := fun b o hb hw e => hk₄ b o hb (k3 b o hw e)
        have hst₄ : St (i + 1) h₄ := W.frame _ _ _ hst₃ fun b hb o e => hk₄ b o (fun q => hCf (by have q' : b = C := q; rw [← q']; exact hb)) e
        obtain ⟨oC, heC, hoC⟩ := ns_obj hn₄
        have F₄ : Fr h₀ L h₄ m := ⟨F'.ns.at' fun o e => k4 _ o (Ne.symm hCL) hLw e, fun b o e => k4 b o (fun q => by rw [q, hC₀] at e; cases e) (oldw b o e) (F'.keep b o e), F'.above⟩
        have Nown : News h₀ L h₄ (ownOf h₀ fp h₄) := news_ownOf hLf
        have N₄ : News h₀ L h₄ ((C, oC) :: (D, lst ys) :: (ownOf h₀ fp h₄ ++ news)) := fun p hp => by
          rcases List.mem_cons.mp hp with rfl | hp
          · exact ⟨heC, hCL, hC₀⟩
          · rcases List.mem_cons.mp hp with rfl | hp
            · exact ⟨k4 _ _ (Ne.symm hCD) hDw (N' _ (.head _)).1, hDL, hD₀⟩
            · rcases List.mem_append.mp hp with hp | hp
              · exact Nown p hp
              · have z := N' _ (.tail _ hp)
                exact ⟨k4 _ _ (offN p hp).1 (hnw p hp) z.1, z.2⟩
        refine wpAny_mono (tr C oC D _ ys (ownOf h₀ fp h₄) h₄ _ _ hoC (by simp [hab]) (by simp) F₄ N₄) (fun r s₅ h₅ => ?_) fun _ _ e => e
        obtain ⟨⟨h₆, tk₆, rfl, F₆, N₆⟩, hr⟩ := h₅
        have zC := (N₆ _ (.head _)).1
        have zD := (N₆ _ (.tail _ (.head _))).1
        have hst₆ : St (i + 1) h₆ := W.frame _ _ _ hst₄ fun b hb o e => by
          cases hb₀ : h₀.get? b with
          | some o' =>
            have q := F₄.keep b o' hb₀
            rw [e] at q
            cases q
            exact F₆.keep b o hb₀
          | none => exact (N₆ _ (.tail _ (.tail _ (List.mem_append_left _ (mem_ownOf hb hb₀ e))))).1
        refine append_at (hsz := by show ys.toArray.size ≤ sizeLine; rw [List.size_toArray, hyl]; exact Nat.le_trans hi hsz) zD fun h₇ hs₇ hD₇ => ?_
        refine ⟨n + 1 - (i + 1), by omega, h₇, tk₆, i + 1, ys ++ [r], _, rfl, hlt, rfl, by rw [List.length_append, List.length_singleton, hyl], W.frame _ _ _ hst₆ fun b hb o e => hs₇.extBut b o (fun q => hDf (q ▸ hb)) e, F₆.change hs₇ hDL hD₀,
          (hoC.ns zC).sameBut hs₇ hCD, fun p hp => ?_, fun j y e => ?_⟩
        · rcases List.mem_cons.mp hp with rfl | hp
          · exact ⟨hD₇.trans (congrArg some (lst_snoc ys r)), hDL, hD₀⟩
          · have z := N₆ _ (.tail _ (.tail _ (List.mem_append_right _ hp)))
            exact ⟨hs₇.extBut _ _ (offN p hp).2 z.1, z.2⟩
        · by_cases hj : j < ys.length
          · rw [List.getElem?_append_left hj] at e
            exact hR j y e
          · have hj2 := (List.getElem?_eq_some_iff.mp e).1
            rw [List.length_append, List.length_singleton] at hj2
            obtain rfl : j = i := by omega
            rw [List.getElem?_append_right (by omega), hyl, Nat.sub_self] at e
            cases e
            exact hr
      · obtain rfl : i = n := Nat.le_antisymm hi (Nat.not_lt.mp hlt)
        refine W.done _ _ _ hst' fun h₂ tk₂ hk₂ => ?_
        refine hRR D C h₂ tk₂ _ ys news ⟨F'.ns.at' fun o e => hk₂ _ o hLw e, fun b o e => hk₂ b o (oldw b o e) (F'.keep b o e), F'.above⟩ (fun p hp => ?_) ?_ (hn'.at' fun o e => hk₂ _ o hCw e) hC₀ hD₀ hCL hDL hCD (fun p hp => (offN p hp).1) (fin ys hyl hR)
        · have z := N' p hp
          refine ⟨hk₂ _ _ ?_ z.1, z.2⟩
          rcases List.mem_cons.mp hp with rfl | hp
          · exact hDw
          · exact hnw p hp
        · exact Off3.one (I := C) (C := C) (Off3.of fun p hp => ⟨(offN p hp).1, (offN p hp).1, (offN p hp).2⟩)
    · rcases List.mem_cons.mp hp with rfl | hp
      · exact ⟨hacc, hDL, hD₀⟩
      · exact ⟨up _ _ (N p hp).1, (N p hp).2⟩
  exact codeAny_compStart_list (loop _ rfl) (self 0 _ _ _ (W.frame _ _ _ hst fun b _ o e => up b o e) (loop _ rfl))
theorem ListComp_Z {elt iter : PySem.Expr} {a b : Str} {pa pb tp : Pos} {kk : Nat} {scope : Scope} {cl : List (Str × Addr)} {pos : Pos} {Q : Value → Shared → Prop} (_F₀ : Fr h₀ L s.heap m)
    (hclos : closureFor scope env = pure cl) (hcell : ∀ y ∈ scope.names, y.2 ≠ .cell) (hkind : scope.kind = .function)
    (hnames : ∀ y ∈ scope.names, y.2 = .local → scope.names.lookup y.1 = some .local) (hxa : scope.names.lookup a = some .local) (hxb : scope.names.lookup b = some .local) (hab : ¬ a = b)
    (h : wpAny (model prog w) A (eval iter env) (fun xv s₁ => wpAny (model prog w) A (pyIter xv) (PairsAt prog w A h₀ L m env elt (.Tuple [.Name a pa, .Name b pb] kk tp) a b scope cl (fun s₂ => FinE h₀ L m s₂ Q)) E s₁) E s)
    (hs : ∀ x, foldedSetIterable iter env x = pure x := by intro _; rfl) :
    wpAny (model prog w) A (eval (.ListComp elt [⟨.Tuple [.Name a pa, .Name b pb] kk tp, iter, [], 0⟩] scope pos) env) Q E s := by
  rw [eval_ListComp]
  refine wpAny_comprehension_free (use := none) rfl hs hclos hkind hnames (wpAny_mono h (fun xv s₁ h₁ => wpAny_mono h₁ (fun it s₂ h₂ => ?_) fun _ _ e => e) fun _ _ e => e)
  refine block_Z hcell hkind hxa hxb hab h₂ ?_
  intro D C h' tk m' ys news' F' N' o1 hn hC₀ hD₀ hCL hDL hCD offC fin
  refine ⟨m', hn, fun h'' hs'' => fin D h'' tk (F'.change hs'' hCL hC₀) (fun p hp => ?_) o1⟩
  refine ⟨hs''.extBut _ _ ?_ (N' p hp).1, (N' p hp).2⟩
  rcases List.mem_cons.mp hp with rfl | hp
  · exact Ne.symm hCD
  · exact offC p hp
theorem Assign_ListComp_Z {elt iter : PySem.Expr} {a b y : Str} {pa pb tp py : Pos} {kk : Nat} {scope : Scope} {cl : List (Str × Addr)} {pos spos : Pos} {Q : Flow → Shared → Prop} (_F₀ : Fr h₀ L s.heap m) (hLe : env.locals = L)
    (hsw : swapsWith (.ListComp elt [⟨.Tuple [.Name a pa, .Name b pb] kk tp, iter, [], 0⟩] scope pos) (some (.Name y py)) spos.line env = pure true)
    (hclos : closureFor scope env = pure cl) (hcell : ∀ z ∈ scope.names, z.2 ≠ .cell) (hkind : scope.kind = .function)
    (hnames : ∀ z ∈ scope.names, z.2 = .local → scope.names.lookup z.1 = some .local) (hxa : scope.names.lookup a = some .local) (hxb : scope.names.lookup b = some .local) (hab : ¬ a = b)
    (hy : env.kindOf y = some .local) (hp : (env.scope.kind == .class || (env.scope.kind == .module && env.locals != env.globals)) = false)
    (h : wpAny (model prog w) A (eval iter env) (fun xv s₁ => wpAny (model prog w) A (pyIter xv) (PairsAt prog w A h₀ L m env elt (.Tuple [.Name a pa, .Name b pb] kk tp) a b scope cl (fun s₂ => FinA h₀ L m s₂ y Q)) E s₁) E s)
    (hs : ∀ x, foldedSetIterable iter env x = pure x := by intro _; rfl) :
    wpAny (model prog w) A (exec (.Assign [.Name y py] (.ListComp elt [⟨.Tuple [.Name a pa, .Name b pb] kk tp, iter, [], 0⟩] scope pos) spos) env) Q E s := by
  subst hLe
  rw [exec_Assign_Name_used _ _ _ _ hsw]
  refine wpAny_bind (wpAny_standAt (wpAny_bind ?_))
  show wpAny _ A (do let _ ← comprehension (.ListComp elt [⟨.Tuple [.Name a pa, .Name b pb] kk tp, iter, [], 0⟩] scope pos) scope env _ (newList []) false (eval iter env) (some (assign (.Name y py) env))) _ _ s
  refine wpAny_bind (wpAny_mono (wpAny_comprehension_free (use := some (assign (.Name y py) env)) (Q := fun _ s' => Q .next s') rfl hs hclos hkind hnames
    (wpAny_mono h (fun xv s₁ h₁ => wpAny_mono h₁ (fun it s₂ h₂ => ?_) fun _ _ e => e) fun _ _ e => e)) (fun _ s' hq => wpAny_pure (wpAny_pure hq)) fun _ _ e => e)
  refine block_Z hcell hkind hxa hxb hab h₂ ?_
  intro D C h' tk m' ys news' F' N' o1 hn hC₀ hD₀ hCL hDL hCD offC fin
  show wpAny _ A (assign (.Name y py) env (.ref D)) _ _ _
  refine wpAny_assign_Name (wpAny_storeName_local hy F'.ns (fun h₃ hn₃ hs₃ => ?_) hp)
  have hL₀ : h₀.get? env.locals = none := Heap.get?_none_of_le F'.above
  have F₃ : Fr h₀ env.locals h₃ (fun z => if z = y then some (.ref D) else m z) := ⟨hn₃, fun b o e => hs₃.extBut b o (fun q => by rw [q, hL₀] at e; cases e) (F'.keep b o e), F'.above⟩
  refine ⟨m', hn.sameBut hs₃ hCL, fun h'' hs'' => fin D h'' _ (F₃.change hs'' hCL hC₀) (fun p hp => ?_) o1⟩
  have z : h₃.get? p.1 = some p.2 := hs₃.extBut _ _ (N' p hp).2.1 (N' p hp).1
  refine ⟨hs''.extBut _ _ ?_ z, (N' p hp).2⟩
  rcases List.mem_cons.mp hp with rfl | hp
  · exact Ne.symm hCD
  · exact offC p hp
theorem pairs_zip {elt : PySem.Expr} {elts : List PySem.Expr} {kk : Nat} {tp : Pos} {a b : Str} {scope : Scope} {cl : List (Str × Addr)} {Fin : Shared → List Value → List (Addr × Obj) → Prop} {l1 l2 : Addr} {lo1 lo2 : Obj} {xs ys : List Value} {n1 n2 : Nat} {news : List (Addr × Obj)} (R : Nat → Value → Prop)
    (hh : A.handled = none) (F : Fr h₀ L s.heap m) (N : News h₀ L s.heap news) (hm1 : (l1, lo1) ∈ news) (hc1 : lo1.cls = .type "list") (hd1 : lo1.data = .seq xs.toArray n1) (hm2 : (l2, lo2) ∈ news) (hc2 : lo2.cls = .type "list") (hd2 : lo2.data = .seq ys.toArray n2) (hlen : xs.length = ys.length) (hsz : xs.length ≤ sizeLine)
    (turn : ∀ i x y, xs[i]? = some x → ys[i]? = some y → ∀ C oC D m₂ zs own h tk (E' : Value → Shared → Prop), NsObj oC m₂ → m₂ a = some x → m₂ b = some y → Fr h₀ L h m → News h₀ L h ((C, oC) :: (D, lst zs) :: (own ++ news)) →
        wpAny (model prog w) A (eval elt (compEnvC scope cl C env)) (fun r s' => (∃ h' tk', s' = { s with heap := h', toks := tk' } ∧ Fr h₀ L h' m ∧ News h₀ L h' ((C, oC) :: (D, lst zs) :: (own ++ news))) ∧ R i r) E' { s with heap := h, toks := tk })
    (fin : ∀ zs g, zs.length = xs.length → (∀ i y, zs[i]? = some y → R i y) → Fin { s with heap := g } zs news) :
    wpAny (model prog w) A (call (.type "zip") [.ref l1, .ref l2]) (fun xv s₁ => wpAny (model prog w) A (pyIter xv) (PairsAt prog w A h₀ L m env elt (.Tuple elts kk tp) a b scope cl Fin) E s₁) E s := by
  have hax1 := N _ hm1
  have hax2 := N _ hm2
  have hl1 : s.heap.IsList l1 xs.toArray := ⟨lo1, hax1.1, hc1, n1, hd1⟩
  have hl2 : s.heap.IsList l2 ys.toArray := ⟨lo2, hax2.1, hc2, n2, hd2⟩
  have hlt1 : l1 < s.heap.objs.size := Heap.lt_size hax1.1
  have hlt2 : l2 < s.heap.objs.size := Heap.lt_size hax2.1
  have hLs : L < s.heap.objs.size := F.ns.lt
  refine call_zip_2 hl1 hl2 fun h' hz hTI hTO hi1 hi2 hsz' hk => ?_
  refine wpAny_pyIter_zip hz ?_
  have D := ktu_apart s.heap.objs.size l1 l2 hlt1 hlt2
  have W := WalksT.zip2 (prog := prog) (w := w) hh _ _ _ _ _ _ _ D xs.toArray ys.toArray
  have hwr : ∀ b ∈ ([s.heap.objs.size + 4, s.heap.objs.size + 3, s.heap.objs.size, s.heap.objs.size + 1] : List Addr), s.heap.objs.size ≤ b := by
    intro b hb
    simp only [List.mem_cons, List.not_mem_nil, or_false] at hb
    rcases hb with rfl | rfl | rfl | rfl <;> first | exact Nat.le_refl _ | exact Nat.le_add_right _ _
  refine ⟨s.heap.objs.size + 4, _, _, _, _, _, _, news, R, rfl, hh, KTurns.ofWalksU W.toU, W.self, ?_, ?_, ?_, ?_, ?_, ⟨hz, hTI, ⟨_, _, hTO⟩, hi1, hi2, hl1.at fun o e => hk l1 o e, hl2.at fun o e => hk l2 o e⟩, F.keeps hk, N.grown hk, ?_, ?_⟩
  · intro hL
    simp only [List.mem_cons, List.not_mem_nil, or_false] at hL
    rcases hL with e | e | e | e | e | e | e
    · exact ktu_ne 4 hLs e
    · exact ktu_ne 2 hLs e
    · exact ktu_ne 3 hLs e
    · exact Nat.ne_of_lt hLs e
    · exact ktu_ne 1 hLs e
    · exact hax1.2.1 e.symm
    · exact hax2.2.1 e.symm
  · intro b hb
    exact ktu_new F (hwr b hb)
  · intro b hb
    have hb' : b = s.heap.objs.size + 4 ∨ b = s.heap.objs.size + 2 ∨ b = s.heap.objs.size + 3 ∨ b = s.heap.objs.size ∨ b = s.heap.objs.size + 1 ∨ b = l1 ∨ b = l2 := by simpa using hb
    have hb2 : @LT.lt Nat _ b (s.heap.objs.size + 5) := by
      rcases hb' with e | e | e | e | e | e | e <;> (have e' : @Eq Nat b _ := e; have t1 : @LT.lt Nat _ l1 s.heap.objs.size := hlt1; have t2 : @LT.lt Nat _ l2 s.heap.objs.size := hlt2; omega)
    exact Nat.lt_of_lt_of_le hb2 (Nat.le_of_eq hsz'.symm)
  · intro p hp hw
    exact absurd (Heap.lt_size (N p hp).1) (Nat.not_lt.mpr (hwr _ hw))
  · rw [List.size_toArray, List.size_toArray, ← hlen, Nat.min_self]; exact hsz
  · rintro i v h₁ hi ⟨T, vals, rfl, ⟨x, y, hx, hy, rfl⟩, hT⟩
    refine ⟨T, x, y, rfl, hT, fun C oC D m₂ zs own h tk E' hC ha hb F' N' => ?_⟩
    exact turn i x y (by simpa using hx) (by simpa using hy) C oC D m₂ zs own h tk E' hC ha hb F' N'
  · intro zs hl hR
    exact fin zs h' (by rw [hl, List.size_toArray, List.size_toArray, ← hlen, Nat.min_self]) hR
end
end Mine
-- Listb
namespace Mine
set_option compiler.extract_closed false
set_option maxRecDepth 100000
set_option maxHeartbeats 8000000
local macro_rules | `(tactic| omega) => `(tactic| first | lia | omega (config := {}))
section
variable {prog : Program} {w : World} {A : Around} {E : Value → Shared → Prop} {s : Shared}
theorem bytes_len_special : typeLookup (.type "bytes") "__len__" = pure (some (.builtin "bytes.__len__")) := by rw [typeLookup_type, builtinLookup_eq_fast]; kernel_rfl
def ByteAt (b : Array UInt8) (i : Nat) (v : Value) : Prop := ∃ c u, b[i]? = some c ∧ v = .int (c.toNat : Int) u
theorem extend_b {R : Result → Shared → Prop} (hh : A.handled = none) (b : Array UInt8) (t : Tok) (S : Addr) (res : Value) (c₀ : Nat) (hS : s.heap.get? S = some { cls := .type "list", data := .seq #[] c₀ }) (hn : b.size ≤ sizeLine)
    (hR : ∀ h' tk acc' c', (∀ a o, a ≠ S → s.heap.get? a = some o → h'.get? a = some o) → h'.get? S = some { cls := .type "list", dict := none, data := .seq acc' c', slots := #[] } →
      ItemsOf (ByteAt b) acc' b.size → R (.ok (.ret res)) { s with heap := h', toks := tk }) :
    wpAny (model prog w) A.in1 (Builtin.List.listExtendWith (.ref S) (.bytes b t) res)
      (fun fin s' => match fin with | .done f => R (.ok f) s' | .again c' => c'.quiet = true ∧ codeAny (model prog w) A c' R s') (fun e s' => R (.error e) s') s := by
  have hSI : S ≠ s.heap.objs.size := Nat.ne_of_lt (Heap.lt_size hS)
  have hSf : S ∉ [s.heap.objs.size] := fun hm => hSI (List.mem_singleton.mp hm)
  unfold Builtin.List.listExtendWith
  refine wpAny_bind (wpAny_typeOf (T := "bytes") (v := .bytes b t) rfl ?_)
  have h1 : Builtin.List.listSameRef (.ref S) (.bytes b t) = false := rfl
  have h2 : (Value.type "bytes" == Value.type "list") = false := by decide
  have h3 : (Value.type "bytes" == Value.type "tuple") = false := by decide
  simp only [h1, h2, h3, Bool.or_false, Bool.false_eq_true, if_false]
  refine wpAny_bind (KBw.pyIter_bytes ?_)
  refine wpAny_bind (wpAny_holding ?_)
  unfold Builtin.List.listLengthHint
  refine wpAny_bind (wpAny_specialOf (T := "bytes") (v := .bytes b t) rfl bytes_len_special ?_)
  wp_delta
  refine wpAny_bind (wpAny_isInstance (T := "bytes") (v := .bytes b t) (b := true) rfl (by rw [isSubtype_type]; kernel_rfl) ?_)
  show wpAny _ _ (typeOf (Value.bytes b t) >>= _) _ _ _
  refine wpAny_bind (wpAny_typeOf (T := "bytes") (v := .bytes b t) rfl ?_)
  refine wpAny_pure ?_
  rw [if_neg (by decide)]
  refine wpAny_pure ⟨plainId_quiet F.plain_extend_loop _, codeAny_extend_loopS (KBw.walks (A := A.in1) hh s.heap.objs.size b t).toS hn _ hSf _ b.size 0 _ _ _ rfl (Nat.zero_le _) ⟨_, Heap.get?_push_size _ rfl, rfl, rfl⟩ (Heap.get?_push_of_some _ hS) (ItemsOf.nil _) fun s' acc' c' hm hS' hacc => ?_⟩
  rw [Moved.eq_with hm]
  refine hR s'.heap s'.toks acc' c' (fun a o ha e => hm.heap a o (fun hmem => ?_) (Heap.get?_push_of_some _ e)) hS' hacc
  rcases List.mem_cons.mp hmem with e' | hmem
  · exact ha e'
  · exact absurd (Heap.lt_size e) (by rw [List.mem_singleton.mp hmem]; exact Nat.lt_irrefl _)
theorem list_b {Q : Value → Shared → Prop} (hh : A.handled = none) (b : Array UInt8) (t : Tok) (hn : b.size ≤ sizeLine)
    (hQ : ∀ h' tk acc' c', (∀ a o, s.heap.get? a = some o → h'.get? a = some o) →
      h'.get? s.heap.objs.size = some { cls := .type "list", dict := none, data := .seq acc' c', slots := #[] } → ItemsOf (ByteAt b) acc' b.size → Q (.ref s.heap.objs.size) { s with heap := h', toks := tk }) :
    wpAny (model prog w) A (call (.type "list") [.bytes b t]) Q E s := by
  refine callType_codes (Q₁ := fun obj s₁ => obj = .ref s.heap.objs.size ∧ s₁ = { s with heap := s.heap.push { cls := .type "list", data := .seq #[] } }) F.called_list (F.typeCall_list_1 _) F.entry_list_init
    (code_list_new _ ⟨rfl, rfl⟩) fun obj s₁ h₁ => ?_
  obtain ⟨rfl, rfl⟩ := h₁
  have hS : (s.heap.push { cls := .type "list", data := .seq #[] }).get? s.heap.objs.size = some { cls := .type "list", data := .seq #[] } := Heap.get?_push_size _ rfl
  refine ⟨⟨_, hS, rfl⟩, F.args_list_init_2 _ _, ?_⟩
  show wpAny _ _ (do let old ← Builtin.List.listItems (.ref s.heap.objs.size); Builtin.List.listUpdate (.ref s.heap.objs.size) (fun _ => #[]); letGo old.toList.reverse; Builtin.List.listExtendWith (.ref s.heap.objs.size) (.bytes b t) .none) _ _ _
  refine wpAny_bind ?_
  unfold Builtin.List.listItems
  refine wpAny_bind (wpAny_seqItems hS rfl (wpAny_pure ?_))
  show wpAny _ _ (updateSeq s.heap.objs.size (fun _ => #[]) >>= fun _ => letGo (#[] : Array Value).toList.reverse >>= fun _ => Builtin.List.listExtendWith (.ref s.heap.objs.size) (.bytes b t) .none) _ _ _
  refine wpAny_bind (wpAny_updateSeq hS rfl ?_)
  have hS₂ := Heap.get?_update_self (Obj.mapSeq (fun _ => (#[] : Array Value))) hS rfl
  refine wpAny_bind (wpAny_letGo ?_)
  refine extend_b (A := A.in1) hh b t _ .none _ hS₂ hn fun h' tk acc' c' hk hS' hacc => ⟨rfl, hQ h' tk acc' c' (fun a o e => hk a o (Nat.ne_of_lt (Heap.lt_size e)) ?_) hS' hacc⟩
  exact (Heap.get?_update_other _ _ (Ne.symm (Nat.ne_of_lt (Heap.lt_size e)))).trans (Heap.get?_push_of_some _ e)
theorem ints_of_bytes {b : Array UInt8} {acc : Array Value} (h : ItemsOf (ByteAt b) acc b.size) : IntsAre acc.toList (KBw.bInts b) := by
  have go : ∀ (l : List UInt8) (vs : List Value), vs.length = l.length → (∀ (i : Nat) (v : Value), vs[i]? = some v → ∃ c u, l[i]? = some c ∧ v = Value.int (c.toNat : Int) u) → IntsAre vs (l.map fun c => (c.toNat : Int)) := by
    intro l
    induction l with
    | nil => intro vs hl _; rw [List.length_nil] at hl; rw [List.length_eq_zero_iff.mp hl]; exact .nil
    | cons c l ih =>
      intro vs hl hv
      cases vs with
      | nil => simp at hl
      | cons v vs =>
        obtain ⟨c', u, hc, rfl⟩ := hv 0 v rfl
        cases hc
        exact .cons _ _ (ih vs (by simpa using hl) fun i x hx => hv (i + 1) x hx)
  refine go b.toList acc.toList (by rw [Array.length_toList, Array.length_toList]; exact h.1) fun i v hv => ?_
  obtain ⟨c, u, hc, e⟩ := h.2 i v (by simpa using hv)
  exact ⟨c, u, by simpa using hc, e⟩
theorem listN_b {h₀ : Heap} {L : Addr} {m : Str → Option Value} {news : List (Addr × Obj)} {Q : Value → Shared → Prop} (hh : A.handled = none) (b : Array UInt8) (t : Tok) (hn : b.size ≤ sizeLine) (F : Fr h₀ L s.heap m) (N : News h₀ L s.heap news)
    (hQ : ∀ D h' tk (us : List Value) c, IntsAre us (KBw.bInts b) → Fr h₀ L h' m → News h₀ L h' ((D, PySem.W.listOf us.toArray c) :: news) → Q (.ref D) { s with heap := h', toks := tk }) :
    wpAny (model prog w) A (call (.type "list") [.bytes b t]) Q E s := by
  refine list_b hh b t hn fun h' tk acc' c' hk hD hacc => ?_
  refine hQ _ h' tk acc'.toList c' (ints_of_bytes hacc) (F.keeps hk) fun p hp => ?_
  rcases List.mem_cons.mp hp with rfl | hp
  · refine ⟨?_, Ne.symm (Nat.ne_of_lt F.ns.lt), ktu_new F (Nat.le_refl _)⟩
    rw [Array.toArray_toList]; exact hD
  · exact ⟨hk _ _ (N p hp).1, (N p hp).2⟩
end
end Mine
-- Srt
namespace Mine
set_option compiler.extract_closed false
set_option maxRecDepth 100000
set_option maxHeartbeats 8000000
local macro_rules | `(tactic| omega) => `(tactic| first | lia | omega (config := {}))
section
variable {r : Nat → Nat} {n0 : Nat} {I : Shared → Prop} {cmp : Nat → Nat → (Bool → Shared → Prop) → Shared → Prop}
def Rk (r : Nat → Nat) (p : Array Nat) (i : Nat) : Nat := r (p.getD i 0)
def Asc (r : Nat → Nat) (p : Array Nat) (k : Nat) : Prop := ∀ i j, i ≤ j → j < k → Rk r p i ≤ Rk r p j
def Dsc (r : Nat → Nat) (p : Array Nat) (k : Nat) : Prop := ∀ i j, i ≤ j → j < k → Rk r p j ≤ Rk r p i
def AskOk (r : Nat → Nat) (n0 : Nat) (I : Shared → Prop) (cmp : Nat → Nat → (Bool → Shared → Prop) → Shared → Prop) : Prop :=
  ∀ i j C s, i < n0 → j < n0 → I s → (∀ b s', I s' → (b = true → r i ≤ r j) → (b = false → r j ≤ r i) → C b s') → cmp i j C s
structure POk (n0 : Nat) (p : Array Nat) : Prop where
  size : p.size = n0
  perm : p.Perm (List.range n0).toArray
theorem Rk_congr {p q : Array Nat} {i j : Nat} (h : p[i]? = q[j]?) : Rk r p i = Rk r q j := by
  unfold Rk
  rw [Array.getD_eq_getD_getElem?, Array.getD_eq_getD_getElem?, h]
theorem Rk_bubble {xs : Array Nat} {src d : Nat} (hs : src < xs.size) (hd : d ≤ src) (k : Nat) :
    Rk r (bubble xs src d) k = if k = src - d then Rk r xs src else if src - d < k ∧ k ≤ src then Rk r xs (k - 1) else Rk r xs k := by
  have e := getElem?_bubble hs d hd k
  by_cases h1 : k = src - d
  · rw [if_pos h1] at e ⊢; exact Rk_congr e
  · rw [if_neg h1] at e ⊢
    by_cases h2 : src - d < k ∧ k ≤ src
    · rw [if_pos h2] at e ⊢; exact Rk_congr e
    · rw [if_neg h2] at e ⊢; exact Rk_congr e
theorem Rk_mirror {xs : Array Nat} {i j : Nat} (hj : j ≤ xs.size) (k : Nat) :
    Rk r (kas_rev xs i j) k = if i ≤ k ∧ k < j then Rk r xs (i + j - 1 - k) else Rk r xs k := by
  have e := getElem?_mirror_all (i := i) hj k
  by_cases h1 : i ≤ k ∧ k < j
  · rw [if_pos h1] at e ⊢; exact Rk_congr e
  · rw [if_neg h1] at e ⊢; exact Rk_congr e
theorem Rk_mirror_equal {xs : Array Nat} {i j : Nat} (hj : j ≤ xs.size) (heq : ∀ k, i ≤ k → k < j → Rk r xs k = Rk r xs (j - 1)) (k : Nat) :
    Rk r (kas_rev xs i j) k = Rk r xs k := by
  rw [Rk_mirror hj]
  split
  · rw [heq _ (by omega (config := {})) (by omega (config := {})), heq k (by omega (config := {})) (by omega (config := {}))]
  · rfl
theorem POk.lt {p : Array Nat} (h : POk n0 p) {k : Nat} (hk : k < n0) : p.getD k 0 < n0 := by
  have hm : p.getD k 0 ∈ p := by
    have h1 : k < p.size := by rw [h.size]; exact hk
    have : p.getD k 0 = p[k] := by simp [Array.getD, h1]
    rw [this]
    exact Array.getElem_mem h1
  have := h.perm.mem_iff.mp hm
  simpa using this
theorem POk.rev {p : Array Nat} (h : POk n0 p) (i j : Nat) : POk n0 (kas_rev p i j) := ⟨(mirror_size _ _ _ _).trans h.size, (mirror_perm _ _ _ _).trans h.perm⟩
theorem POk.bub {p : Array Nat} (h : POk n0 p) (i j : Nat) : POk n0 (bubble p i j) := ⟨(bubble_size _ _ _).trans h.size, (bubble_perm _ _ _).trans h.perm⟩
theorem Asc.succ {p : Array Nat} {n : Nat} (h : Asc r p n) (h1 : 1 ≤ n) (hb : Rk r p (n - 1) ≤ Rk r p n) : Asc r p (n + 1) := by
  intro i j hij hj
  by_cases hjn : j < n
  · exact h i j hij hjn
  · obtain rfl : j = n := by omega
    by_cases hi : i = j
    · subst hi; exact Nat.le_refl _
    · exact Nat.le_trans (h i (j - 1) (by omega) (by omega)) hb
theorem Dsc.succ {p : Array Nat} {n : Nat} (h : Dsc r p n) (h1 : 1 ≤ n) (hb : Rk r p n ≤ Rk r p (n - 1)) : Dsc r p (n + 1) := by
  intro i j hij hj
  by_cases hjn : j < n
  · exact h i j hij hjn
  · obtain rfl : j = n := by omega
    by_cases hi : i = j
    · subst hi; exact Nat.le_refl _
    · exact Nat.le_trans hb (h i (j - 1) (by omega) (by omega))
theorem Dsc.congr {p q : Array Nat} {n : Nat} (h : Dsc r p n) (e : ∀ k, Rk r q k = Rk r p k) : Dsc r q n := by
  intro i j hij hj; rw [e, e]; exact h i j hij hj
theorem Dsc.rev {p : Array Nat} {n : Nat} (h : Dsc r p n) (hn : n ≤ p.size) : Asc r (kas_rev p 0 n) n := by
  intro i j hij hj
  rw [Rk_mirror hn, Rk_mirror hn, if_pos (by omega (config := {})), if_pos (by omega (config := {}))]
  exact h _ _ (by omega (config := {})) (by omega (config := {}))
theorem asc_one (p : Array Nat) : Asc r p 1 := by
  intro i j a b
  obtain rfl : i = j := by omega
  exact Nat.le_refl _
theorem dsc_one (p : Array Nat) : Dsc r p 1 := by
  intro i j a b
  obtain rfl : i = j := by omega
  exact Nat.le_refl _
theorem srt_asc (H : AskOk r n0 I cmp) {p : Array Nat} (hp : POk n0 p) : ∀ (f n : Nat) (s : Shared) {Q : Nat → Shared → Prop}, 1 ≤ n → n + f ≤ n0 → Asc r p n → I s →
    (∀ m s', n ≤ m → m ≤ n + f → I s' → Asc r p m → (m < n + f → Rk r p m ≤ Rk r p (m - 1)) → Q m s') → (kas_asc p f n).kasWp cmp Q s := by
  intro f
  induction f with
  | zero => intro n s Q h1 hn hA hI h; exact h n s (Nat.le_refl _) (Nat.le_refl _) hI hA (fun q => absurd q (Nat.lt_irrefl _))
  | succ f ih =>
    intro n s Q h1 hn hA hI h
    show cmp _ _ _ s
    refine H _ _ _ _ (hp.lt (by omega)) (hp.lt (by omega)) hI fun b s' hI' ht hf => ?_
    cases b with
    | true =>
      refine kas_yes (T₂ := kas_asc p f (n + 1)) ?_
      rw [if_pos rfl]
      exact h n s' (Nat.le_refl _) (by omega) hI' hA fun _ => ht rfl
    | false =>
      refine kas_no (T₁ := KasT.ret n) ?_
      rw [if_neg (by simp)]
      exact ih (n + 1) s' (by omega) (by omega) (hA.succ h1 (hf rfl)) hI' fun m s'' a b c d e => h m s'' (by omega) (by omega) c d fun q => e (by omega)
theorem srt_desc (H : AskOk r n0 I cmp) : ∀ (f : Nat) (p : Array Nat) (n q : Nat) (s : Shared) {Q : Array Nat × Nat × Nat → Shared → Prop}, POk n0 p → 1 ≤ n → n + f ≤ n0 → q + 1 ≤ n → Dsc r p n → (∀ k, n - (q + 1) ≤ k → k < n → Rk r p k = Rk r p (n - 1)) → I s →
    (∀ p' m q' s', POk n0 p' → n ≤ m → m ≤ n + f → q' + 1 ≤ m → I s' → Dsc r p' m → (∀ k, m - (q' + 1) ≤ k → k < m → Rk r p' k = Rk r p' (m - 1)) → Q (p', m, q') s') → (kas_desc f p n q).kasWp cmp Q s := by
  intro f
  induction f with
  | zero => intro p n q s Q hp h1 hn hq hD hE hI h; exact h p n q s hp (Nat.le_refl _) (Nat.le_refl _) hq hI hD hE
  | succ f ih =>
    intro p n q s Q hp h1 hn hq hD hE hI h
    show cmp _ _ _ s
    refine H _ _ _ _ (hp.lt (by omega)) (hp.lt (by omega)) hI fun b s' hI' ht hf => ?_
    cases b with
    | true =>
      have ht := ht rfl
      show KasT.kasWp cmp (if true = true then (if q > 0 then kas_desc f (kas_rev p (n - (q + 1)) n) (n + 1) 0 else kas_desc f p (n + 1) 0) else _) Q s'
      rw [if_pos rfl]
      have hD1 : Dsc r p (n + 1) := hD.succ h1 ht
      by_cases hq0 : q > 0
      · rw [if_pos hq0]
        have e := Rk_mirror_equal (r := r) (xs := p) (i := n - (q + 1)) (j := n) (by rw [hp.size]; omega) hE
        exact ih _ (n + 1) 0 s' (hp.rev _ _) (by omega) (by omega) (by omega) (hD1.congr e) (fun k a b => by congr 1; omega) hI' fun p' m q' s'' a1 a2 a3 a4 a5 a6 a7 => h p' m q' s'' a1 (by omega) (by omega) a4 a5 a6 a7
      · rw [if_neg hq0]
        exact ih _ (n + 1) 0 s' hp (by omega) (by omega) (by omega) hD1 (fun k a b => by congr 1; omega) hI' fun p' m q' s'' a1 a2 a3 a4 a5 a6 a7 => h p' m q' s'' a1 (by omega) (by omega) a4 a5 a6 a7
    | false =>
      have hf := hf rfl
      show KasT.kasWp cmp (if false = true then _ else KasT.ask (p.getD (n - 1) 0) (p.getD n 0) fun d => if d = true then KasT.ret (p, n, q) else kas_desc f p (n + 1) (q + 1)) Q s'
      rw [if_neg (by simp)]
      show cmp _ _ _ s'
      refine H _ _ _ _ (hp.lt (by omega)) (hp.lt (by omega)) hI' fun d s'' hI'' ht' hf' => ?_
      cases d with
      | true =>
        show KasT.kasWp cmp (if true = true then KasT.ret (p, n, q) else kas_desc f p (n + 1) (q + 1)) Q s''
        rw [if_pos rfl]
        exact h p n q s'' hp (Nat.le_refl _) (by omega) hq hI'' hD hE
      | false =>
        show KasT.kasWp cmp (if false = true then KasT.ret (p, n, q) else kas_desc f p (n + 1) (q + 1)) Q s''
        rw [if_neg (by simp)]
        have hf' := hf' rfl
        refine ih p (n + 1) (q + 1) s'' hp (by omega) (by omega) (by omega) (hD.succ h1 hf') (fun k a b => ?_) hI'' fun p' m q' s3 a1 a2 a3 a4 a5 a6 a7 => h p' m q' s3 a1 (by omega) (by omega) a4 a5 a6 a7
        have e : Rk r p (n + 1 - 1) = Rk r p (n - 1) := by
          show Rk r p n = _
          exact Nat.le_antisymm hf' hf
        rw [e]
        by_cases hk : k < n
        · exact hE k (by omega) hk
        · obtain rfl : k = n := by omega
          exact e
theorem srt_tail3 (H : AskOk r n0 I cmp) {p : Array Nat} {n nrem : Nat} {s : Shared} {Q : Nat × Array Nat → Shared → Prop} (hp : POk n0 p) (h1 : 1 ≤ n) (hn : n ≤ nrem) (hr : nrem ≤ n0) (hD : Dsc r p n) (hI : I s)
    (h : ∀ m p' s', 1 ≤ m → m ≤ nrem → POk n0 p' → I s' → Asc r p' m → Q (m, p') s') : (kas_tail3 n nrem p).kasWp cmp Q s := by
  unfold kas_tail3
  rw [KasT.kasWp_bind]
  refine srt_asc H (hp.rev 0 n) (nrem - n) n s h1 (by omega) (hD.rev (by rw [hp.size]; omega)) hI fun m s' a b c d e => ?_
  exact h m _ s' (by omega) (by omega) (hp.rev 0 n) c d
theorem srt_descPart (H : AskOk r n0 I cmp) {p : Array Nat} {n nrem : Nat} {s : Shared} {Q : Nat × Array Nat → Shared → Prop} (hp : POk n0 p) (h1 : 1 ≤ n) (hn : n + 1 ≤ nrem) (hr : nrem ≤ n0) (hD : Dsc r p (n + 1)) (hI : I s)
    (h : ∀ m p' s', 1 ≤ m → m ≤ nrem → POk n0 p' → I s' → Asc r p' m → Q (m, p') s') : (kas_descPart n nrem p).kasWp cmp Q s := by
  unfold kas_descPart
  rw [KasT.kasWp_bind]
  refine srt_desc H (nrem - (n + 1)) p (n + 1) 0 s hp (by omega) (by omega) (by omega) hD (fun k a b => by congr 1; omega) hI fun p' m q' s' a1 a2 a3 a4 a5 a6 a7 => ?_
  dsimp only
  by_cases hq : q' > 0
  · rw [if_pos hq]
    have e := Rk_mirror_equal (r := r) (xs := p') (i := m - (q' + 1)) (j := m) (by rw [a1.size]; omega) a7
    exact srt_tail3 H (a1.rev _ _) (by omega) (by omega) hr (a6.congr e) a5 h
  · rw [if_neg hq]
    exact srt_tail3 H a1 (by omega) (by omega) hr a6 a5 h
theorem srt_count (H : AskOk r n0 I cmp) {p : Array Nat} {nrem : Nat} {s : Shared} {Q : Nat × Array Nat → Shared → Prop} (hp : POk n0 p) (h1 : 1 ≤ nrem) (hr : nrem ≤ n0) (hI : I s)
    (h : ∀ m p' s', 1 ≤ m → m ≤ nrem → POk n0 p' → I s' → Asc r p' m → Q (m, p') s') : (kas_count nrem p).kasWp cmp Q s := by
  unfold kas_count
  rw [KasT.kasWp_bind]
  refine srt_asc H hp (nrem - 1) 1 s (Nat.le_refl _) (by omega) (asc_one p) hI fun m s' a b c d e => ?_
  by_cases e1 : (m == nrem) = true
  · rw [if_pos e1]
    exact h m p s' a (by omega) hp c d
  · rw [if_neg e1]
    have hlt : m + 1 ≤ nrem := by
      have : m ≠ nrem := fun q => e1 (by rw [q]; exact beq_self_eq_true _)
      omega
    have e := e (by omega)
    by_cases e2 : m > 1
    · rw [if_pos e2]
      show cmp _ _ _ s'
      refine H _ _ _ _ (hp.lt (by omega)) (hp.lt (by omega)) c fun b s'' hI'' ht hf => ?_
      cases b with
      | true =>
        show KasT.kasWp cmp (if true = true then KasT.ret (m, p) else kas_descPart m nrem (kas_rev p 0 m)) Q s''
        rw [if_pos rfl]
        exact h m p s'' a (by omega) hp hI'' d
      | false =>
        show KasT.kasWp cmp (if false = true then KasT.ret (m, p) else kas_descPart m nrem (kas_rev p 0 m)) Q s''
        rw [if_neg (by simp)]
        have hf : Rk r p (m - 1) ≤ Rk r p 0 := hf rfl
        have heq : ∀ k, 0 ≤ k → k < m → Rk r p k = Rk r p (m - 1) := fun k _ hk => Nat.le_antisymm (d k (m - 1) (by omega) (by omega)) (Nat.le_trans hf (d 0 k (by omega) hk))
        have ee := Rk_mirror_equal (r := r) (xs := p) (i := 0) (j := m) (by rw [hp.size]; omega) heq
        refine srt_descPart H (hp.rev 0 m) a hlt hr (Dsc.succ (fun i j hij hj => ?_) a ?_) hI'' h
        · rw [ee, ee, heq i (by omega) (by omega), heq j (by omega) (by omega)]; exact Nat.le_refl _
        · rw [ee, ee]; exact e
    · rw [if_neg e2]
      obtain rfl : m = 1 := by omega
      exact srt_descPart H hp a hlt hr (Dsc.succ (dsc_one p) a e) c h
theorem srt_place (H : AskOk r n0 I cmp) {p : Array Nat} (hp : POk n0 p) {k : Nat} (hk : k < n0) (hA : Asc r p k) : ∀ (f l rr : Nat) (s : Shared) {Q : Nat → Shared → Prop}, l ≤ rr → rr ≤ k → rr ≤ l + f →
    (∀ i, i < l → Rk r p i ≤ Rk r p k) → (∀ i, rr ≤ i → i < k → Rk r p k ≤ Rk r p i) → I s →
    (∀ m s', m ≤ k → (∀ i, i < m → Rk r p i ≤ Rk r p k) → (∀ i, m ≤ i → i < k → Rk r p k ≤ Rk r p i) → I s' → Q m s') → (kas_place p k f l rr).kasWp cmp Q s := by
  intro f
  induction f with
  | zero =>
    intro l rr s Q h1 h2 h3 ha hb hI h
    obtain rfl : l = rr := by omega
    exact h l s h2 ha hb hI
  | succ f ih =>
    intro l rr s Q h1 h2 h3 ha hb hI h
    unfold kas_place
    by_cases hlr : l ≥ rr
    · rw [if_pos hlr]
      obtain rfl : l = rr := by omega
      exact h l s h2 ha hb hI
    · rw [if_neg hlr]
      show cmp _ _ _ s
      refine H _ _ _ _ (hp.lt hk) (hp.lt (by omega)) hI fun b s' hI' ht hf => ?_
      cases b with
      | true =>
        show KasT.kasWp cmp (if true = true then kas_place p k f l ((l + rr) / 2) else kas_place p k f ((l + rr) / 2 + 1) rr) Q s'
        rw [if_pos rfl]
        exact ih l ((l + rr) / 2) s' (by omega) (by omega) (by omega) ha (fun i a b => Nat.le_trans (ht rfl) (hA _ _ a b)) hI' h
      | false =>
        show KasT.kasWp cmp (if false = true then kas_place p k f l ((l + rr) / 2) else kas_place p k f ((l + rr) / 2 + 1) rr) Q s'
        rw [if_neg (by simp)]
        exact ih ((l + rr) / 2 + 1) rr s' (by omega) (by omega) (by omega) (fun i a => Nat.le_trans (hA i ((l + rr) / 2) (by omega) (by omega)) (hf rfl)) hb hI' h
theorem srt_bin (H : AskOk r n0 I cmp) : ∀ (f : Nat) (p : Array Nat) (k : Nat) (s : Shared) {Q : Array Nat → Shared → Prop}, POk n0 p → 1 ≤ k → k + f ≤ n0 → Asc r p k → I s →
    (∀ p' s', POk n0 p' → Asc r p' (k + f) → I s' → Q p' s') → (kas_bin f p k).kasWp cmp Q s := by
  intro f
  induction f with
  | zero => intro p k s Q hp h1 hk hA hI h; exact h p s hp hA hI
  | succ f ih =>
    intro p k s Q hp h1 hk hA hI h
    rw [show kas_bin (f + 1) p k = (kas_place p k k 0 k).bind fun l => kas_bin f (bubble p k (k - l)) (k + 1) from rfl, KasT.kasWp_bind]
    refine srt_place H hp (by omega) hA k 0 k s (by omega) (by omega) (by omega) (fun i a => by omega) (fun i a b => by omega) hI fun m s' hm ha hb hI' => ?_
    refine ih (bubble p k (k - m)) (k + 1) s' (hp.bub _ _) (by omega) (by omega) (fun i j hij hj => ?_) hI' fun p' s'' a b c => h p' s'' a (by rw [show k + (f + 1) = k + 1 + f by omega]; exact b) c
    have hsz : k < p.size := by rw [hp.size]; omega
    rw [Rk_bubble hsz (by omega), Rk_bubble hsz (by omega)]
    have ekm : k - (k - m) = m := by omega
    rw [ekm]
    by_cases i1 : i = m
    · subst i1
      rw [if_pos rfl]
      by_cases j1 : j = i
      · rw [if_pos j1]; exact Nat.le_refl _
      · rw [if_neg j1, if_pos (by omega)]
        exact hb _ (by omega) (by omega)
    · rw [if_neg i1]
      by_cases i2 : m < i ∧ i ≤ k
      · rw [if_pos i2, if_neg (by omega), if_pos (by omega)]
        exact hA _ _ (by omega) (by omega)
      · rw [if_neg i2]
        by_cases j1 : j = m
        · rw [if_pos j1]
          exact ha _ (by omega)
        · rw [if_neg j1]
          by_cases j2 : m < j ∧ j ≤ k
          · rw [if_pos j2]
            exact hA _ _ (by omega) (by omega)
          · rw [if_neg j2]
            exact hA _ _ (by omega) (by omega)
theorem srt_sort (H : AskOk r n0 I cmp) {s : Shared} {Q : Array Nat → Shared → Prop} (h1 : 1 ≤ n0) (hI : I s) (h : ∀ p s', POk n0 p → Asc r p n0 → I s' → Q p s') : (kas_sort n0).kasWp cmp Q s := by
  unfold kas_sort
  rw [KasT.kasWp_bind]
  refine srt_count H (p := (List.range n0).toArray) ⟨by simp, Array.Perm.refl _⟩ h1 (Nat.le_refl _) hI fun m p s' a b c d e => ?_
  dsimp only
  by_cases hlt : m < n0
  · rw [if_pos hlt]
    have em : max m 1 = m := by omega
    rw [em]
    exact srt_bin H (n0 - m) p m s' c a (by omega) e d fun p' s'' a1 a2 a3 => h p' s'' a1 (by rw [show n0 = m + (n0 - m) by omega]; exact a2) a3
  · rw [if_neg hlt]
    obtain rfl : m = n0 := by omega
    exact h p s' c e d
end
end Mine
-- Sre1
namespace Mine
set_option compiler.extract_closed false
set_option maxRecDepth 100000
set_option maxHeartbeats 8000000
local macro_rules | `(tactic| omega) => `(tactic| first | lia | omega (config := {}))
def reCode : Array Nat := #[14, 8, 1, 3, 3, 1, 1, 61, 0, 16, 61, 24, 16, 2, 2, 13, 11, 9, 0, 67043328, 126, 126, 0, 0, 0, 0, 0, 1, 1]
def mA (text : Array Nat) (lim s : Nat) (first : Bool) (seen : PySem.Sre.Seen) : PySem.Sre.M :=
  { code := reCode, text, lim, start := s, lastStart := lim, pc := 9, pos := s, handed := s, outermost := first, marks := #[], frames := [{ wait := .nextStart, pc := 9, pos := s, outermost := first }], weight := 1, seen }
theorem m_step_done (m : PySem.Sre.M) (h : m.outcome.isSome = true) : m.step = m := by unfold PySem.Sre.M.step; rw [if_pos h]
def iter : Nat → PySem.Sre.M → PySem.Sre.M
  | 0, m => m
  | n + 1, m => iter n m.step
theorem iter_done (m : PySem.Sre.M) (h : m.outcome.isSome = true) : ∀ n, iter n m = m
  | 0 => rfl
  | n + 1 => by show iter n m.step = m; rw [m_step_done m h]; exact iter_done m h n
theorem runFor_iter : ∀ (n : Nat) (m : PySem.Sre.M), m.runFor n = iter n m
  | 0, _ => rfl
  | n + 1, m => by
    show (if m.outcome.isSome then m else m.step.runFor n) = _
    by_cases h : m.outcome.isSome = true
    · rw [if_pos h, iter_done m h]
    · rw [if_neg h]; exact runFor_iter n _
theorem iter_add : ∀ (a b : Nat) (m : PySem.Sre.M), iter (a + b) m = iter b (iter a m)
  | 0, b, m => by rw [Nat.zero_add]; rfl
  | a + 1, b, m => by rw [show a + 1 + b = (a + b) + 1 by omega]; exact iter_add a b _
theorem accepts_lit (c : Nat) (seen : PySem.Sre.Seen) : PySem.Sre.accepts reCode 9 c seen = .ok (c == 61, seen) := rfl
theorem step_ne {text : Array Nat} {lim s : Nat} {first : Bool} {seen : PySem.Sre.Seen} (hs : s < lim) (hc : text.getD s 0 ≠ 61) : (mA text lim s first seen).step = { mA text lim s first (seen.add 16) with answer := some false } := by
  show PySem.Sre.M.exec (mA text lim s first seen) = _
  show (if s ≥ lim then _ else match PySem.Sre.accepts reCode 9 (text.getD s 0) (seen.add 16) with | .error why => _ | .ok (false, seen) => _ | .ok (true, seen) => _) = _
  rw [if_neg (by omega), accepts_lit, show (text.getD s 0 == 61) = false by simpa using hc]
  rfl
theorem step_end {text : Array Nat} {lim s : Nat} {first : Bool} {seen : PySem.Sre.Seen} (hs : lim ≤ s) : (mA text lim s first seen).step = { mA text lim s first (seen.add 16) with answer := some false } := by
  show PySem.Sre.M.exec (mA text lim s first seen) = _
  show (if s ≥ lim then _ else _) = _
  rw [if_pos hs]
  rfl
theorem step_no {text : Array Nat} {lim s : Nat} {first : Bool} {seen : PySem.Sre.Seen} (hs : s < lim) : ({ mA text lim s first seen with answer := some false } : PySem.Sre.M).step = mA text lim (s + 1) false seen := by
  show (if s < lim then _ else _) = _
  rw [if_pos hs]
  rfl
theorem step_over {text : Array Nat} {lim s : Nat} {first : Bool} {seen : PySem.Sre.Seen} (hs : lim ≤ s) : (iter 2 { mA text lim s first seen with answer := some false }).outcome = some .failed := by
  show (PySem.Sre.M.step (if s < lim then _ else _)).outcome = _
  rw [if_neg (by omega)]
  rfl
theorem search_none {text : Array Nat} {lim : Nat} : ∀ (n s : Nat) (first : Bool) (seen : PySem.Sre.Seen), s + n = lim → (∀ i, s ≤ i → i < lim → text.getD i 0 ≠ 61) → (iter (2 * n + 3) (mA text lim s first seen)).outcome = some .failed
  | 0, s, first, seen, h, _ => by
    show (iter 2 (mA text lim s first seen).step).outcome = _
    rw [step_end (by omega)]
    exact step_over (by omega)
  | n + 1, s, first, seen, h, hn => by
    rw [show 2 * (n + 1) + 3 = (2 * n + 3) + 1 + 1 by omega]
    show (iter (2 * n + 3) (mA text lim s first seen).step.step).outcome = _
    rw [step_ne (by omega) (hn s (Nat.le_refl _) (by omega)), step_no (by omega)]
    exact search_none n (s + 1) false _ (by omega) fun i a b => hn i (by omega) b
def hexc (c : Nat) : Prop := (48 ≤ c ∧ c ≤ 57) ∨ (65 ≤ c ∧ c ≤ 70) ∨ (97 ≤ c ∧ c ≤ 102)
theorem hex_all : ∀ c, c < 103 → ((48 ≤ c ∧ c ≤ 57) ∨ (65 ≤ c ∧ c ≤ 70) ∨ (97 ≤ c ∧ c ≤ 102)) → (reCode.getD (17 + (1 + c / 32)) 0).testBit (c % 32) = true := by decide +kernel
theorem accepts_hex (c : Nat) (seen : PySem.Sre.Seen) (h : hexc c) : ∃ seen', PySem.Sre.accepts reCode 15 c seen = .ok (true, seen') := by
  have h1 : c < 103 := by unfold hexc at h; omega
  have h2 := hex_all c h1 h
  refine ⟨seen.add 9, ?_⟩
  show (if (decide (c < 256) && (reCode.getD (17 + (1 + c / 32)) 0).testBit (c % 32)) = true then _ else _) = _
  rw [h2, decide_eq_true (show c < 256 by omega)]
  rfl
theorem run_two {text : Array Nat} {p : Nat} (seen : PySem.Sre.Seen) (h1 : hexc (text.getD p 0)) (h2 : hexc (text.getD (p + 1) 0)) : ∃ seen', PySem.Sre.run reCode text 15 2 p 0 seen = .ok (2, seen') := by
  obtain ⟨s1, e1⟩ := accepts_hex _ seen h1
  obtain ⟨s2, e2⟩ := accepts_hex _ s1 h2
  refine ⟨s2, ?_⟩
  show (do let (yes, seen) ← PySem.Sre.accepts reCode 15 (text.getD p 0) seen; if yes then PySem.Sre.run reCode text 15 1 (p + 1) 1 seen else pure (0, seen)) = _
  rw [e1]
  show (do let (yes, seen) ← PySem.Sre.accepts reCode 15 (text.getD (p + 1) 0) s1; if yes then PySem.Sre.run reCode text 15 0 (p + 2) 2 seen else pure (1, seen)) = _
  rw [e2]
  rfl
def mB (text : Array Nat) (lim s : Nat) (first : Bool) (seen : PySem.Sre.Seen) : PySem.Sre.M := { mA text lim s first seen with pc := 11, pos := s + 1 }
theorem step_eq {text : Array Nat} {lim s : Nat} {first : Bool} {seen : PySem.Sre.Seen} (hs : s < lim) (hc : text.getD s 0 = 61) : (mA text lim s first seen).step = mB text lim s first (seen.add 16) := by
  show PySem.Sre.M.exec (mA text lim s first seen) = _
  show (if s ≥ lim then _ else match PySem.Sre.accepts reCode 9 (text.getD s 0) (seen.add 16) with | .error why => _ | .ok (false, seen) => _ | .ok (true, seen) => _) = _
  rw [if_neg (by omega), accepts_lit, hc]
  rfl
structure Found (text : Array Nat) (p : Nat) (m : PySem.Sre.M) : Prop where
  out : m.outcome = some .matched
  start : m.start = p
  handed : m.handed = p + 3
  lastmark : m.lastmark = -1
  lastindex : m.lastindex = -1
  marks : m.marks = #[]
theorem step_B {text : Array Nat} {lim s : Nat} {first : Bool} {seen : PySem.Sre.Seen} (hs : s + 3 ≤ lim) (h1 : hexc (text.getD (s + 1) 0)) (h2 : hexc (text.getD (s + 2) 0)) : Found text s (iter 5 (mB text lim s first seen)) := by
  obtain ⟨s1, e1⟩ := run_two (text := text) (p := s + 1) ((seen.add 24).add 13) h1 h2
  have e : (mB text lim s first seen).step = { mA text lim s first s1 with pc := 28, pos := s + 3, handed := s + 3, frames := [{ wait := .giveBack, pc := 11, pos := s + 3, outermost := first, count := 2, kept := { lastmark := -1, lastindex := -1 } }, { wait := .nextStart, pc := 9, pos := s, outermost := first }], weight := 2 } := by
    show PySem.Sre.M.exec (mB text lim s first seen) = _
    show (if ((2 : Nat) : Int) > (lim : Int) - (s + 1 : Nat) then _ else match PySem.Sre.run reCode text 15 (min 2 ((lim : Int) - (s + 1 : Nat)).toNat) (s + 1) 0 ((seen.add 24).add 13) with | .error why => _ | .ok (n, seen) => _) = _
    rw [if_neg (by omega), show min 2 ((lim : Int) - (s + 1 : Nat)).toNat = 2 by omega, e1]
    rfl
  show Found text s (iter 4 (mB text lim s first seen).step)
  rw [e]
  have e2 : (iter 4 ({ mA text lim s first s1 with pc := 28, pos := s + 3, handed := s + 3, frames := [{ wait := .giveBack, pc := 11, pos := s + 3, outermost := first, count := 2, kept := { lastmark := -1, lastindex := -1 } }, { wait := .nextStart, pc := 9, pos := s, outermost := first }], weight := 2 } : PySem.Sre.M)) = { mA text lim s first (s1.add 1) with handed := s + 3, frames := [], weight := 0, answer := some true, outcome := some .matched } := by
    cases first <;> rfl
  rw [e2]
  exact ⟨rfl, rfl, rfl, rfl, rfl, rfl⟩
theorem search_found {text : Array Nat} {lim p : Nat} (hp : p + 3 ≤ lim) (hc : text.getD p 0 = 61) (h1 : hexc (text.getD (p + 1) 0)) (h2 : hexc (text.getD (p + 2) 0)) : ∀ (n s : Nat) (first : Bool) (seen : PySem.Sre.Seen), s + n = p → (∀ i, s ≤ i → i < p → text.getD i 0 ≠ 61) → Found text p (iter (2 * n + 6) (mA text lim s first seen))
  | 0, s, first, seen, h, _ => by
    obtain rfl : s = p := by omega
    show Found text s (iter 5 (mA text lim s first seen).step)
    rw [step_eq (by omega) hc]
    exact step_B hp h1 h2
  | n + 1, s, first, seen, h, hn => by
    rw [show 2 * (n + 1) + 6 = (2 * n + 6) + 1 + 1 by omega]
    show Found text p (iter (2 * n + 6) (mA text lim s first seen).step.step)
    rw [step_ne (by omega) (hn s (Nat.le_refl _) (by omega)), step_no (by omega)]
    exact search_found hp hc h1 h2 n (s + 1) false _ (by omega) fun i a b => hn i (by omega) b
theorem search_is {text : Array Nat} {s lim : Nat} (h : s + 3 ≤ lim) : ∃ seen, PySem.Sre.forSearch reCode text 0 s lim false = mA text lim s true seen := by
  refine ⟨({} : PySem.Sre.Seen).add 14, ?_⟩
  show (if s > lim || decide (lim - s < 3) then _ else _) = _
  rw [if_neg (by simp; omega)]
  rfl
theorem search_short {text : Array Nat} {s lim : Nat} (h : s ≤ lim) (h3 : lim < s + 3) : ∃ m, PySem.Sre.forSearch reCode text 0 s lim false = m ∧ (iter 1 m).outcome = some .failed := by
  refine ⟨_, rfl, ?_⟩
  show (iter 1 (if s > lim || decide (lim - s < 3) then _ else _)).outcome = _
  rw [if_pos (by simp; omega)]
  rfl
section
variable {M : Model} {A : Around} {E : Value → Shared → Prop} {s : Shared}
theorem wp_drive {Q : PySem.Sre.M → Shared → Prop} : ∀ (k : Nat) (turns : Nat) (m : PySem.Sre.M), (iter k m).outcome.isSome = true → k < 4 * turns → Q (iter k m) s → wpAny M A (Builtin.Re.reDrive turns m) Q E s := by
  intro k turns
  induction turns generalizing k with
  | zero => intro m _ h; omega (config := {})
  | succ turns ih =>
    intro m ho hk hq
    show wpAny M A (if (m.runFor 4).outcome.isSome then pure (m.runFor 4) else do rule "sre.turn"; Builtin.Re.reDrive turns (m.runFor 4)) Q E s
    rw [runFor_iter]
    by_cases h : (iter 4 m).outcome.isSome = true
    · rw [if_pos h]
      by_cases hk4 : k ≤ 4
      · have e : iter 4 m = iter (4 - k) (iter k m) := by rw [← iter_add]; congr 1; omega (config := {})
        rw [e, iter_done _ ho]
        exact wpAny_pure hq
      · have e : iter k m = iter 4 m := by rw [show k = 4 + (k - 4) by omega (config := {}), iter_add, iter_done _ h]
        rw [e] at hq
        exact wpAny_pure hq
    · rw [if_neg h]
      refine wpAny_bind (wpAny_rule ?_)
      have hk4 : 4 ≤ k := by
        apply Nat.le_of_not_lt
        intro hlt
        have e : iter 4 m = iter (4 - k) (iter k m) := by rw [← iter_add]; congr 1; omega (config := {})
        rw [e, iter_done _ ho] at h
        exact h ho
      have e : iter k m = iter (k - 4) (iter 4 m) := by rw [← iter_add]; congr 1; omega (config := {})
      rw [e] at ho hq
      exact ih (k - 4) (iter 4 m) ho (by omega (config := {})) hq
end
end Mine
-- Len
namespace Mine
set_option compiler.extract_closed false
set_option maxRecDepth 100000
set_option maxHeartbeats 8000000
local macro_rules | `(tactic| omega) => `(tactic| first | lia | omega (config := {}))
def pick3 (a b c : Int) (i : Int) : Int := if i = 0 then a else if i = 1 then b else c
structure LS where
  q : Int
  o0 : Int
  o1 : Int
  o2 : Int
  t : Int
def ls0 : LS := ⟨1000000, 1000000, 1000000, 1000000, -1⟩
def LS.g0 (s : LS) (run : Int) : Int := min s.o0 (s.t + 9) + 4 * ((0 + run + 2) / 3 - (0 + 2) / 3)
def LS.g1 (s : LS) (run : Int) : Int := s.o1 + 4 * ((1 + run + 2) / 3 - (1 + 2) / 3)
def LS.g2 (s : LS) (run : Int) : Int := s.o2 + 4 * ((2 + run + 2) / 3 - (2 + 2) / 3)
def LS.gp (s : LS) (run : Int) (j : Int) : Int := pick3 (s.g0 run) (s.g1 run) (s.g2 run) ((j - run) % 3)
def LS.q' (s : LS) (cost run : Int) : Int := min s.q (s.t + 9) + cost * run
def lstep (cost run : Int) (s : LS) : LS := ⟨s.q' cost run, s.gp run 0, s.gp run 1, s.gp run 2, min (min (min (s.q' cost run) (s.gp run 0)) (s.gp run 1)) (s.gp run 2)⟩
def lst (cost run : Nat → Int) : Nat → LS
  | 0 => ls0
  | e + 1 => lstep (cost e) (run e) (lst cost run e)
def span (c : Nat → Int) (s : Nat) : Nat → Int
  | 0 => 0
  | e + 1 => if s ≤ e then span c s e + c e else 0
theorem span_self (c : Nat → Int) (e : Nat) : span c e e = 0 := by
  cases e with
  | zero => rfl
  | succ e => show (if e + 1 ≤ e then _ else _) = (0 : Int); rw [if_neg (by omega)]
theorem span_succ (c : Nat → Int) {s e : Nat} (h : s ≤ e) : span c s (e + 1) = span c s e + c e := by
  show (if s ≤ e then _ else _) = _; rw [if_pos h]
theorem span_nonneg {c : Nat → Int} (h : ∀ i, 0 ≤ c i) (s : Nat) : ∀ e, 0 ≤ span c s e
  | 0 => Int.le_refl _
  | e + 1 => by
    show 0 ≤ (if s ≤ e then _ else _)
    have := span_nonneg h s e
    have := h e
    split <;> omega
def ow (s : LS) (j : Int) : Int := if j = 0 then s.o0 else if j = 1 then s.o1 else s.o2
structure LInv (cost run : Nat → Int) (e : Nat) (st : LS) : Prop where
  q0 : e = 0 → st = ls0
  q1 : ∀ s, s < e → st.q ≤ (lst cost run s).t + 9 + span (fun i => cost i * run i) s e
  q2 : 0 < e → ∃ s, s < e ∧ st.q = (lst cost run s).t + 9 + span (fun i => cost i * run i) s e
  o1 : ∀ s j, s < e → 0 ≤ j → j < 3 → span run s e % 3 = j → ow st j ≤ (lst cost run s).t + 9 + 4 * ((span run s e + 2) / 3)
  o2 : ∀ j, 0 ≤ j → j < 3 → 1000000 ≤ ow st j ∨ ∃ s, s < e ∧ span run s e % 3 = j ∧ ow st j = (lst cost run s).t + 9 + 4 * ((span run s e + 2) / 3)
theorem ow_gp (s : LS) (cost run j : Int) (h0 : 0 ≤ j) (h3 : j < 3) : ow (lstep cost run s) j = s.gp run j := by
  unfold ow lstep
  dsimp only
  by_cases j0 : j = 0
  · rw [if_pos j0, j0]
  · rw [if_neg j0]
    by_cases j1 : j = 1
    · rw [if_pos j1, j1]
    · rw [if_neg j1, show j = 2 by omega]
def pre (s : LS) (i : Int) : Int := if i = 0 then min s.o0 (s.t + 9) else if i = 1 then s.o1 else s.o2
theorem gp_pre (s : LS) (run j : Int) : s.gp run j = pre s ((j - run) % 3) + 4 * (((j - run) % 3 + run + 2) / 3 - ((j - run) % 3 + 2) / 3) := by
  unfold LS.gp pick3 pre LS.g0 LS.g1 LS.g2
  have h1 := Int.emod_nonneg (j - run) (b := 3) (by decide)
  have h2 := Int.emod_lt_of_pos (j - run) (b := 3) (by decide)
  generalize (j - run) % 3 = i at h1 h2 ⊢
  by_cases i0 : i = 0
  · rw [if_pos i0, if_pos i0, i0]
  · rw [if_neg i0, if_neg i0]
    by_cases i1 : i = 1
    · rw [if_pos i1, if_pos i1, i1]
    · rw [if_neg i1, if_neg i1, show i = 2 by omega]
theorem ceil_step (n run j : Int) (h0 : 0 ≤ j) (h3 : j < 3) (h : (n + run) % 3 = j) : (j - run) % 3 = n % 3 ∧ 4 * ((n + run + 2) / 3) = 4 * ((n + 2) / 3) + 4 * ((n % 3 + run + 2) / 3 - (n % 3 + 2) / 3) := by
  omega
theorem ceil_back (n run j : Int) (h0 : 0 ≤ j) (h3 : j < 3) (h : n % 3 = (j - run) % 3) : (n + run) % 3 = j ∧ 4 * ((n + run + 2) / 3) = 4 * ((n + 2) / 3) + 4 * ((n % 3 + run + 2) / 3 - (n % 3 + 2) / 3) := by
  omega
theorem pre_cases (s : LS) (i : Int) : pre s i = ow s i ∨ (i = 0 ∧ pre s i = s.t + 9) := by
  unfold pre ow
  by_cases i0 : i = 0
  · rw [if_pos i0, if_pos i0]
    by_cases h : s.o0 ≤ s.t + 9
    · exact .inl (by omega)
    · exact .inr ⟨i0, by omega⟩
  · rw [if_neg i0, if_neg i0]
    exact .inl rfl
theorem linv (cost run : Nat → Int) (hr : ∀ i, 0 ≤ run i) : ∀ e, LInv cost run e (lst cost run e)
  | 0 => ⟨fun _ => rfl, fun s h => absurd h (Nat.not_lt_zero _), fun h => absurd h (Nat.lt_irrefl _), fun s j h => absurd h (Nat.not_lt_zero _), fun j a b => .inl (by unfold ow lst ls0; dsimp only; split <;> (try split) <;> exact Int.le_refl _)⟩
  | e + 1 => by
    have ih := linv cost run hr e
    refine ⟨fun h => absurd h (Nat.succ_ne_zero _), fun s hs => ?_, fun _ => ?_, fun s j hs h0 h3 hj => ?_, fun j h0 h3 => ?_⟩
    · rw [span_succ _ (Nat.le_of_lt_succ hs)]
      show min _ _ + _ ≤ _
      by_cases hse : s < e
      · have := ih.q1 s hse
        omega
      · obtain rfl : s = e := by omega
        rw [span_self]
        omega
    · show ∃ s, _ ∧ min _ _ + _ = _
      by_cases he : 0 < e
      · obtain ⟨s, hs, hq⟩ := ih.q2 he
        by_cases hm : (lst cost run e).q ≤ (lst cost run e).t + 9
        · refine ⟨s, by omega, ?_⟩
          rw [span_succ _ (Nat.le_of_lt hs)]
          omega
        · refine ⟨e, by omega, ?_⟩
          rw [span_succ _ (Nat.le_refl _), span_self]
          omega
      · obtain rfl : e = 0 := by omega
        refine ⟨0, by omega, ?_⟩
        rw [span_succ _ (Nat.le_refl _), span_self]
        show min (1000000 : Int) (-1 + 9) + _ = (-1 + 9 + _ : Int)
        omega
    · rw [span_succ _ (Nat.le_of_lt_succ hs)] at hj ⊢
      show ow (lstep _ _ _) _ ≤ _
      rw [ow_gp _ _ _ _ h0 h3, gp_pre]
      obtain ⟨e1, e2⟩ := ceil_step _ _ _ h0 h3 hj
      rw [e1, e2]
      have hp : pre (lst cost run e) (span run s e % 3) ≤ (lst cost run s).t + 9 + 4 * ((span run s e + 2) / 3) := by
        by_cases hse : s < e
        · have h := ih.o1 s _ hse (Int.emod_nonneg _ (by decide)) (Int.emod_lt_of_pos _ (by decide)) rfl
          refine Int.le_trans ?_ h
          unfold pre ow
          generalize span run s e % 3 = i
          split
          · exact Int.min_le_left _ _
          · exact Int.le_refl _
        · obtain rfl : s = e := by omega
          rw [span_self]
          show pre _ 0 ≤ _
          unfold pre
          rw [if_pos rfl]
          omega
      omega
    · show 1000000 ≤ ow (lstep _ _ _) _ ∨ ∃ s, _ ∧ _ ∧ ow (lstep _ _ _) _ = _
      rw [ow_gp _ _ _ _ h0 h3, gp_pre]
      have h1 := Int.emod_nonneg (j - run e) (b := 3) (by decide)
      have h2 := Int.emod_lt_of_pos (j - run e) (b := 3) (by decide)
      have hre := hr e
      rcases pre_cases (lst cost run e) ((j - run e) % 3) with hp | ⟨hi, hp⟩
      · rw [hp]
        rcases ih.o2 ((j - run e) % 3) h1 h2 with hb | ⟨s, hs, hm, ho⟩
        · exact .inl (by omega)
        · obtain ⟨e1, e2⟩ := ceil_back _ _ _ h0 h3 hm
          refine .inr ⟨s, by omega, ?_, ?_⟩
          · rw [span_succ _ (Nat.le_of_lt hs)]; exact e1
          · rw [span_succ _ (Nat.le_of_lt hs), e2, ho, hm]; omega
      · obtain ⟨e1, e2⟩ := ceil_back 0 (run e) j h0 h3 (by rw [hi]; rfl)
        refine .inr ⟨e, by omega, ?_, ?_⟩
        · rw [span_succ _ (Nat.le_refl _), span_self]; exact e1
        · rw [span_succ _ (Nat.le_refl _), span_self, hp, hi, e2]; omega
def wlen (cost run : Nat → Int) (k : Bool) (s e : Nat) : Int := if k then 8 + span (fun i => cost i * run i) s e else 8 + 4 * ((span run s e + 2) / 3)
theorem min4_le (a b c d : Int) : min (min (min a b) c) d ≤ a ∧ min (min (min a b) c) d ≤ b ∧ min (min (min a b) c) d ≤ c ∧ min (min (min a b) c) d ≤ d :=
  have h1 := Int.min_le_left (min (min a b) c) d
  have h2 := Int.le_trans h1 (Int.min_le_left (min a b) c)
  ⟨Int.le_trans h2 (Int.min_le_left a b), Int.le_trans h2 (Int.min_le_right a b), Int.le_trans h1 (Int.min_le_right (min a b) c), Int.min_le_right _ d⟩
theorem min_or (a b : Int) : min a b = a ∨ min a b = b := by
  rcases Int.le_total a b with h | h
  · exact .inl (Int.min_eq_left h)
  · exact .inr (Int.min_eq_right h)
theorem min4_or (a b c d : Int) : min (min (min a b) c) d = a ∨ min (min (min a b) c) d = b ∨ min (min (min a b) c) d = c ∨ min (min (min a b) c) d = d := by
  rcases min_or (min (min a b) c) d with h | h
  · rw [h]
    rcases min_or (min a b) c with h | h
    · rw [h]
      rcases min_or a b with h | h
      · exact .inl h
      · exact .inr (.inl h)
    · exact .inr (.inr (.inl h))
  · exact .inr (.inr (.inr h))
theorem min4_is {a b c d M : Int} (ha : M = a ∨ M = b ∨ M = c ∨ M = d) (hb : M ≤ a ∧ M ≤ b ∧ M ≤ c ∧ M ≤ d) : M = min (min (min a b) c) d := by
  obtain ⟨l1, l2, l3, l4⟩ := min4_le a b c d
  refine Int.le_antisymm (Int.le_min.mpr ⟨Int.le_min.mpr ⟨Int.le_min.mpr ⟨hb.1, hb.2.1⟩, hb.2.2.1⟩, hb.2.2.2⟩) ?_
  rcases ha with h | h | h | h
  · exact h ▸ l1
  · exact h ▸ l2
  · exact h ▸ l3
  · exact h ▸ l4
theorem lst_min (cost run : Nat → Int) (hr : ∀ i, 0 ≤ run i) (hc : ∀ i, 0 ≤ cost i * run i) (e : Nat) (he : 0 < e) (hb : span (fun i => cost i * run i) 0 e < 900000) :
    (∀ s k, s < e → (lst cost run e).t ≤ (lst cost run s).t + 1 + wlen cost run k s e) ∧ ∃ s k, s < e ∧ (lst cost run e).t = (lst cost run s).t + 1 + wlen cost run k s e := by
  have I := linv cost run hr e
  obtain ⟨e, rfl⟩ : ∃ n, e = n + 1 := ⟨e - 1, by omega⟩
  have et : (lst cost run (e + 1)).t = min (min (min (lst cost run (e + 1)).q (ow (lst cost run (e + 1)) 0)) (ow (lst cost run (e + 1)) 1)) (ow (lst cost run (e + 1)) 2) := rfl
  have ha : ∀ s, s < e + 1 → (lst cost run (e + 1)).t ≤ (lst cost run s).t + 9 + 4 * ((span run s (e + 1) + 2) / 3) := fun s hs => by
    have h1 := Int.emod_nonneg (span run s (e + 1)) (b := 3) (by decide)
    have h2 := Int.emod_lt_of_pos (span run s (e + 1)) (b := 3) (by decide)
    have h := I.o1 s _ hs h1 h2 rfl
    rw [et]
    have e3 : span run s (e + 1) % 3 = 0 ∨ span run s (e + 1) % 3 = 1 ∨ span run s (e + 1) % 3 = 2 := by omega
    obtain ⟨_, l2, l3, l4⟩ := min4_le (lst cost run (e + 1)).q (ow (lst cost run (e + 1)) 0) (ow (lst cost run (e + 1)) 1) (ow (lst cost run (e + 1)) 2)
    rcases e3 with q | q | q
    · rw [q] at h; exact Int.le_trans l2 h
    · rw [q] at h; exact Int.le_trans l3 h
    · rw [q] at h; exact Int.le_trans l4 h
  have hq : ∀ s, s < e + 1 → (lst cost run (e + 1)).t ≤ (lst cost run s).t + 9 + span (fun i => cost i * run i) s (e + 1) := fun s hs => by
    have := I.q1 s hs
    rw [et]
    exact Int.le_trans (min4_le _ _ _ _).1 this
  refine ⟨fun s k hs => ?_, ?_⟩
  · unfold wlen
    have := ha s hs
    have := hq s hs
    split <;> omega
  · have h0 : (lst cost run 0).t = -1 := rfl
    have hsmall := hq 0 (by omega)
    rw [h0] at hsmall
    have hcase : (lst cost run (e + 1)).t = (lst cost run (e + 1)).q ∨ ∃ j, 0 ≤ j ∧ j < 3 ∧ (lst cost run (e + 1)).t = ow (lst cost run (e + 1)) j := by
      rw [et]
      rcases min4_or (lst cost run (e + 1)).q (ow (lst cost run (e + 1)) 0) (ow (lst cost run (e + 1)) 1) (ow (lst cost run (e + 1)) 2) with h | h | h | h
      · exact .inl h
      · exact .inr ⟨0, by decide, by decide, h⟩
      · exact .inr ⟨1, by decide, by decide, h⟩
      · exact .inr ⟨2, by decide, by decide, h⟩
    rcases hcase with h | ⟨j, j0, j3, h⟩
    · obtain ⟨s, hs, hse⟩ := I.q2 he
      refine ⟨s, true, hs, ?_⟩
      unfold wlen
      rw [if_pos rfl]
      omega
    · rcases I.o2 j j0 j3 with hbig | ⟨s, hs, _, ho⟩
      · omega
      · refine ⟨s, false, hs, ?_⟩
        unfold wlen
        rw [if_neg (by simp)]
        omega
theorem best_is (cost run : Nat → Int) (hr : ∀ i, 0 ≤ run i) (hc : ∀ i, 0 ≤ cost i * run i) (n : Nat) (hb : ∀ e, e ≤ n → span (fun i => cost i * run i) 0 e < 900000) (L : Nat → Int) (h0 : L 0 = 0)
    (hL : ∀ e, 0 < e → e ≤ n → (∀ s k, s < e → L e ≤ (if s = 0 then 0 else L s + 1) + wlen cost run k s e) ∧ ∃ s k, s < e ∧ L e = (if s = 0 then 0 else L s + 1) + wlen cost run k s e) : ∀ e, 0 < e → e ≤ n → L e = (lst cost run e).t := by
  have key : ∀ m e, e ≤ m → e ≤ n → (if e = 0 then 0 else L e + 1) = (lst cost run e).t + 1 := by
    intro m
    induction m with
    | zero => intro e h1 h2; obtain rfl : e = 0 := by omega
              rfl
    | succ m ih =>
      intro e h1 h2
      by_cases he : e = 0
      · subst he; rfl
      · rw [if_neg he]
        obtain ⟨a1, s1, k1, b1, c1⟩ := lst_min cost run hr hc e (by omega) (hb e h2)
        obtain ⟨a2, s2, k2, b2, c2⟩ := hL e (by omega) h2
        have d1 := a2 s1 k1 b1
        have d2 := a1 s2 k2 b2
        rw [ih s1 (by omega) (by omega)] at d1
        rw [ih s2 (by omega) (by omega)] at c2
        omega
  intro e h1 h2
  have := key e e (Nat.le_refl _) h2
  rw [if_neg (by omega)] at this
  omega
end Mine
-- B64l
namespace Mine
set_option compiler.extract_closed false
set_option maxRecDepth 100000
set_option maxHeartbeats 8000000
local macro_rules | `(tactic| omega) => `(tactic| first | lia | omega (config := {}))
theorem or_low (a n : Int) (ha : 0 ≤ a) (h0 : 0 ≤ n) (h1 : n < 256) : Builtin.bitOr (a * 2 ^ Int.toNat 8) n = a * 256 + n := by
  have e : (2 : Int) ^ Int.toNat 8 = 256 := by decide
  rw [e, bitOr_and, bitAnd_pp (by omega) h0]
  have : (a * 256).toNat &&& n.toNat = 0 := by
    obtain ⟨x, rfl⟩ : ∃ x : Nat, a = x := ⟨a.toNat, by omega⟩
    obtain ⟨y, rfl⟩ : ∃ y : Nat, n = y := ⟨n.toNat, by omega⟩
    have hy : y < 2 ^ 8 := by omega
    have e1 : ((x : Int) * 256).toNat = x <<< 8 := by rw [Nat.shiftLeft_eq]; omega
    rw [e1, Int.toNat_natCast]
    have h := Nat.shiftLeft_add_eq_or_of_lt hy x
    have h2 := nat_or_add_and (x <<< 8) y
    omega
  rw [this]
  omega
theorem lc_is (lc n : Int) (ha : 0 ≤ lc) (h0 : 0 ≤ n) (h1 : n < 256) : b64lc lc n = (lc * 256 + n) % 65536 := by
  unfold b64lc
  rw [or_low _ _ ha h0 h1, bitAnd_m16]
theorem d6 (x : Int) : b64d x 6 = b64at (x / 64 % 64) := by
  unfold b64d
  rw [Int.fdiv_eq_ediv_of_nonneg _ (by decide)]; rfl
theorem d4 (x : Int) : b64d x 4 = b64at (x / 16 % 64) := by
  unfold b64d
  rw [Int.fdiv_eq_ediv_of_nonneg _ (by decide)]; rfl
theorem d2 (x : Int) : b64d x 2 = b64at (x / 4 % 64) := by
  unfold b64d
  rw [Int.fdiv_eq_ediv_of_nonneg _ (by decide)]; rfl
theorem d0 (x : Int) : b64d x 0 = b64at (x % 64) := by
  unfold b64d
  rw [Int.fdiv_eq_ediv_of_nonneg _ (by decide)]
  show b64at (x / 1 % 64) = _
  rw [Int.ediv_one]
def b64q : List Int → List Int
  | a :: b :: c :: r => [b64at (a / 4), b64at (a % 4 * 16 + b / 16), b64at (b % 16 * 4 + c / 64), b64at (c % 64)] ++ b64q r
  | [a, b] => [b64at (a / 4), b64at (a % 4 * 16 + b / 16), b64at (b % 16 * 4), 61]
  | [a] => [b64at (a / 4), b64at (a % 4 * 16), 61, 61]
  | [] => []
def octs (l : List Int) : Prop := ∀ n ∈ l, 0 ≤ n ∧ n < 256
theorem octs.tail {a : Int} {l : List Int} (h : octs (a :: l)) : octs l := fun n hn => h n (.tail _ hn)
theorem b64_turn0 (lc : Int) (zs : List Int) (n : Int) (ha : 0 ≤ lc) (h0 : 0 ≤ n) (h1 : n < 256) : ∃ lc', b64turn (0, lc, zs) n = (2, lc', zs ++ [b64at (n / 4)]) ∧ 0 ≤ lc' ∧ lc' % 4 = n % 4 := by
  refine ⟨b64lc lc n, ?_, (b64lc_range _ _).1, ?_⟩
  · unfold b64turn
    dsimp only
    rw [if_neg (by decide), if_neg (by decide)]
    rw [d2, lc_is _ _ ha h0 h1, show (lc * 256 + n) % 65536 / 4 % 64 = n / 4 by omega]
  · rw [lc_is _ _ ha h0 h1]; omega
theorem b64_turn2 (lc : Int) (zs : List Int) (n : Int) (ha : 0 ≤ lc) (h0 : 0 ≤ n) (h1 : n < 256) : ∃ lc', b64turn (2, lc, zs) n = (4, lc', zs ++ [b64at (lc % 4 * 16 + n / 16)]) ∧ 0 ≤ lc' ∧ lc' % 16 = n % 16 := by
  refine ⟨b64lc lc n, ?_, (b64lc_range _ _).1, ?_⟩
  · unfold b64turn
    dsimp only
    rw [if_neg (by decide), if_pos (by decide)]
    rw [d4, lc_is _ _ ha h0 h1, show (lc * 256 + n) % 65536 / 16 % 64 = lc % 4 * 16 + n / 16 by omega]
  · rw [lc_is _ _ ha h0 h1]; omega
theorem b64_turn4 (lc : Int) (zs : List Int) (n : Int) (ha : 0 ≤ lc) (h0 : 0 ≤ n) (h1 : n < 256) : ∃ lc', b64turn (4, lc, zs) n = (0, lc', zs ++ [b64at (lc % 16 * 4 + n / 64), b64at (n % 64)]) ∧ 0 ≤ lc' := by
  refine ⟨b64lc lc n, ?_, (b64lc_range _ _).1⟩
  unfold b64turn
  rw [if_pos rfl]
  dsimp only
  rw [d6, d0, lc_is _ _ ha h0 h1, show (lc * 256 + n) % 65536 / 64 % 64 = lc % 16 * 4 + n / 64 by omega (config := {}), show (lc * 256 + n) % 65536 % 64 = n % 64 by omega (config := {}), List.append_assoc]
  rfl
def b64fin (c : Int × Int × List Int) : List Int :=
  if c.1 = 2 then c.2.2 ++ [b64at (c.2.1 % 4 * 16)] ++ [61] ++ [61]
  else if c.1 = 4 then c.2.2 ++ [b64at (c.2.1 % 16 * 4)] ++ [61]
  else c.2.2
theorem b64_go : ∀ (ks : List Int) (lc : Int) (zs : List Int), octs ks → 0 ≤ lc → b64fin (ks.foldl b64turn (0, lc, zs)) = zs ++ b64q ks
  | [], lc, zs, _, _ => by
    unfold b64fin
    rw [List.foldl_nil]
    dsimp only
    rw [if_neg (by decide), if_neg (by decide)]
    simp [b64q]
  | [a], lc, zs, h, hl => by
    have ha := h a (.head _)
    obtain ⟨l1, e1, p1, m1⟩ := b64_turn0 lc zs a hl ha.1 ha.2
    rw [List.foldl_cons, e1, List.foldl_nil]
    unfold b64fin
    rw [if_pos rfl]
    dsimp only
    rw [m1]
    simp [b64q]
  | [a, b], lc, zs, h, hl => by
    have ha := h a (.head _)
    have hb := h b (.tail _ (.head _))
    obtain ⟨l1, e1, p1, m1⟩ := b64_turn0 lc zs a hl ha.1 ha.2
    obtain ⟨l2, e2, p2, m2⟩ := b64_turn2 l1 (zs ++ [b64at (a / 4)]) b p1 hb.1 hb.2
    rw [List.foldl_cons, e1, List.foldl_cons, e2, List.foldl_nil]
    unfold b64fin
    dsimp only
    rw [if_neg (by decide), if_pos rfl]
    rw [m1, m2]
    simp [b64q]
  | a :: b :: c :: r, lc, zs, h, hl => by
    have ha := h a (.head _)
    have hb := h b (.tail _ (.head _))
    have hc := h c (.tail _ (.tail _ (.head _)))
    obtain ⟨l1, e1, p1, m1⟩ := b64_turn0 lc zs a hl ha.1 ha.2
    obtain ⟨l2, e2, p2, m2⟩ := b64_turn2 l1 (zs ++ [b64at (a / 4)]) b p1 hb.1 hb.2
    obtain ⟨l3, e3, p3⟩ := b64_turn4 l2 (zs ++ [b64at (a / 4)] ++ [b64at (l1 % 4 * 16 + b / 16)]) c p2 hc.1 hc.2
    rw [List.foldl_cons, e1, List.foldl_cons, e2, List.foldl_cons, e3, b64_go r l3 _ h.tail.tail.tail p3, m1, m2]
    simp [b64q]
theorem b64out_q (ks : List Int) (h : octs ks) : b64out ks = b64q ks := by
  have := b64_go ks 0 [] h (Int.le_refl _)
  rw [List.nil_append] at this
  exact this
theorem b64q_len : ∀ ks : List Int, ((b64q ks).length : Int) = 4 * (((ks.length : Int) + 2) / 3)
  | [] => rfl
  | [_] => by simp [b64q]
  | [_, _] => by simp [b64q]
  | a :: b :: c :: r => by
    have ih := b64q_len r
    show ((([b64at (a / 4), b64at (a % 4 * 16 + b / 16), b64at (b % 16 * 4 + c / 64), b64at (c % 64)] ++ b64q r).length : Nat) : Int) = _
    rw [List.length_append]
    simp only [List.length_cons, List.length_nil]
    omega
def sval (c : Int) : Int := if c = 61 then 0 else ((b64tab.findIdx (fun u => ((u.toNat : Nat) : Int) == c) : Nat) : Int)
theorem sval_at_nat : ∀ n, n < 64 → sval (b64at (n : Nat)) = (n : Nat) := by decide +kernel
theorem sval_at (v : Int) (h0 : 0 ≤ v) (h1 : v < 64) : sval (b64at v) = v := by
  have := sval_at_nat v.toNat (by omega)
  rw [show ((v.toNat : Nat) : Int) = v by omega] at this
  exact this
theorem at_ne_nat : ∀ n, n < 64 → b64at (n : Nat) ≠ 61 := by decide +kernel
theorem at_ne (v : Int) (h0 : 0 ≤ v) (h1 : v < 64) : b64at v ≠ 61 := by
  have := at_ne_nat v.toNat (by omega)
  rw [show ((v.toNat : Nat) : Int) = v by omega] at this
  exact this
def wholeOf (a b c d : Int) : Int := (((0 * 64 + sval a) * 64 + sval b) * 64 + sval c) * 64 + sval d
def three (w : Int) : List Int := [w / 65536, w / 256 % 256, w % 256]
def threes : List Int → List Int
  | a :: b :: c :: d :: r => three (wholeOf a b c d) ++ threes r
  | _ => []
def pads (l : List Int) : Nat := l.count 61
theorem threes_q : ∀ ks : List Int, octs ks → (threes (b64q ks)).take ((threes (b64q ks)).length - pads (b64q ks)) = ks ∧ pads (b64q ks) ≤ 2 ∧ ks.length ≤ (threes (b64q ks)).length
  | [], _ => ⟨rfl, by decide, by decide⟩
  | [a], h => by
    have ha := h a (.head _)
    have e : threes (b64q [a]) = [a, 0, 0] := by
      show three (wholeOf (b64at (a / 4)) (b64at (a % 4 * 16)) 61 61) ++ [] = _
      unfold wholeOf
      rw [sval_at _ (by omega) (by omega), sval_at _ (by omega) (by omega), show sval 61 = 0 from rfl]
      unfold three
      rw [show ((((0 * 64 + a / 4) * 64 + a % 4 * 16) * 64 + 0) * 64 + 0) / 65536 = a by omega, show ((((0 * 64 + a / 4) * 64 + a % 4 * 16) * 64 + 0) * 64 + 0) / 256 % 256 = 0 by omega, show ((((0 * 64 + a / 4) * 64 + a % 4 * 16) * 64 + 0) * 64 + 0) % 256 = 0 by omega]
      rfl
    have p : pads (b64q [a]) = 2 := by
      show List.count 61 [b64at (a / 4), b64at (a % 4 * 16), 61, 61] = 2
      rw [List.count_cons_of_ne (at_ne _ (by omega) (by omega)), List.count_cons_of_ne (at_ne _ (by omega) (by omega))]
      rfl
    rw [e, p]
    exact ⟨rfl, by decide, by simp⟩
  | [a, b], h => by
    have ha := h a (.head _)
    have hb := h b (.tail _ (.head _))
    have e : threes (b64q [a, b]) = [a, b, 0] := by
      show three (wholeOf (b64at (a / 4)) (b64at (a % 4 * 16 + b / 16)) (b64at (b % 16 * 4)) 61) ++ [] = _
      unfold wholeOf
      rw [sval_at _ (by omega) (by omega), sval_at _ (by omega) (by omega), sval_at _ (by omega) (by omega), show sval 61 = 0 from rfl]
      unfold three
      rw [show ((((0 * 64 + a / 4) * 64 + (a % 4 * 16 + b / 16)) * 64 + b % 16 * 4) * 64 + 0) / 65536 = a by omega, show ((((0 * 64 + a / 4) * 64 + (a % 4 * 16 + b / 16)) * 64 + b % 16 * 4) * 64 + 0) / 256 % 256 = b by omega, show ((((0 * 64 + a / 4) * 64 + (a % 4 * 16 + b / 16)) * 64 + b % 16 * 4) * 64 + 0) % 256 = 0 by omega]
      rfl
    have p : pads (b64q [a, b]) = 1 := by
      show List.count 61 [b64at (a / 4), b64at (a % 4 * 16 + b / 16), b64at (b % 16 * 4), 61] = 1
      rw [List.count_cons_of_ne (at_ne _ (by omega) (by omega)), List.count_cons_of_ne (at_ne _ (by omega) (by omega)), List.count_cons_of_ne (at_ne _ (by omega) (by omega))]
      rfl
    rw [e, p]
    exact ⟨rfl, by decide, by simp⟩
  | a :: b :: c :: r, h => by
    have ha := h a (.head _)
    have hb := h b (.tail _ (.head _))
    have hc := h c (.tail _ (.tail _ (.head _)))
    obtain ⟨i1, i2, i3⟩ := threes_q r h.tail.tail.tail
    have e : threes (b64q (a :: b :: c :: r)) = a :: b :: c :: threes (b64q r) := by
      show three (wholeOf (b64at (a / 4)) (b64at (a % 4 * 16 + b / 16)) (b64at (b % 16 * 4 + c / 64)) (b64at (c % 64))) ++ _ = _
      unfold wholeOf
      rw [sval_at _ (by omega) (by omega), sval_at _ (by omega) (by omega), sval_at _ (by omega) (by omega), sval_at _ (by omega) (by omega)]
      unfold three
      rw [show ((((0 * 64 + a / 4) * 64 + (a % 4 * 16 + b / 16)) * 64 + (b % 16 * 4 + c / 64)) * 64 + c % 64) / 65536 = a by omega, show ((((0 * 64 + a / 4) * 64 + (a % 4 * 16 + b / 16)) * 64 + (b % 16 * 4 + c / 64)) * 64 + c % 64) / 256 % 256 = b by omega, show ((((0 * 64 + a / 4) * 64 + (a % 4 * 16 + b / 16)) * 64 + (b % 16 * 4 + c / 64)) * 64 + c % 64) % 256 = c by omega]
      rfl
    have p : pads (b64q (a :: b :: c :: r)) = pads (b64q r) := by
      show List.count 61 (b64at (a / 4) :: b64at (a % 4 * 16 + b / 16) :: b64at (b % 16 * 4 + c / 64) :: b64at (c % 64) :: b64q r) = List.count 61 (b64q r)
      rw [List.count_cons_of_ne (at_ne _ (by omega) (by omega)), List.count_cons_of_ne (at_ne _ (by omega) (by omega)), List.count_cons_of_ne (at_ne _ (by omega) (by omega)), List.count_cons_of_ne (at_ne _ (by omega) (by omega))]
    rw [e, p]
    refine ⟨?_, i2, by simp only [List.length_cons]; omega⟩
    have hl : (threes (b64q r)).length ≥ pads (b64q r) := by
      rcases r with _ | ⟨x, _ | ⟨y, _ | ⟨z, r⟩⟩⟩
      · decide
      · have : (threes (b64q [x])).length = 3 := rfl
        omega
      · have : (threes (b64q [x, y])).length = 3 := rfl
        omega
      · have : (threes (b64q (x :: y :: z :: r))).length ≥ 3 := by
          show (three _ ++ _).length ≥ 3
          rw [List.length_append]; show 3 + _ ≥ 3; omega
        omega
    rw [show (a :: b :: c :: threes (b64q r)).length - pads (b64q r) = ((threes (b64q r)).length - pads (b64q r)) + 3 by simp only [List.length_cons]; omega]
    show a :: b :: c :: List.take _ _ = _
    rw [i1]
end Mine
-- Base
namespace Mine
set_option compiler.extract_closed false
set_option maxRecDepth 100000
set_option maxHeartbeats 8000000
local macro_rules | `(tactic| omega) => `(tactic| first | lia | omega (config := {}))
def qhex (n : Nat) : Nat := if n < 10 then 48 + n else 55 + n
def qsafe (c : Nat) : Bool := (65 ≤ c && c ≤ 90) || (97 ≤ c && c ≤ 122) || (48 ≤ c && c ≤ 57) || c == 33 || c == 42 || c == 43 || c == 45 || c == 47
def qcps (c : Nat) : List Nat := if qsafe c then [c] else if c = 32 then [95] else [61, qhex (c / 16), qhex (c % 16)]
def qstr (c : Nat) : Str := ⟨(qcps c).toArray⟩
def listAt (K : Frag) (a : Addr) : Option (List Value) := match K.lookup a with
  | some ⟨.type "list", _, .seq xs _, _⟩ => some xs.toList
  | _ => none
theorem listAt_in {K : Frag} {a : Addr} {h : Heap} {xs : List Value} (X : K.In h) (e : listAt K a = some xs) : h.IsList a xs.toArray := by
  unfold listAt at e
  split at e
  · rename_i ho
    cases e
    exact ⟨_, X _ _ ho, rfl, _, by rw [Array.toArray_toList]⟩
  · cases e
theorem tab81_ok (w : World) : (match listAt (hd.heap_39 w.params) 81 with
    | some xs => (List.range 256).all fun c => match xs[c]? with | some (.str x _) => decide (x.cps = (qcps c).toArray) | _ => false
    | none => false) = true := by kernel_rfl
theorem tab81 (w : World) : ∃ xs, listAt (hd.heap_39 w.params) 81 = some xs ∧ ∀ c, c < 256 → ∃ t, xs[c]? = some (.str (qstr c) t) := by
  have h := tab81_ok w
  split at h
  · rename_i xs e
    refine ⟨xs, e, fun c hc => ?_⟩
    have h2 := List.all_eq_true.mp h c (List.mem_range.mpr hc)
    split at h2
    · rename_i x t e2
      refine ⟨t, ?_⟩
      rw [e2]
      have h3 := of_decide_eq_true h2
      cases x with
      | mk cps => dsimp only at h3; subst h3; rfl
    · cases h2
  · cases h
def qrow (l : List Nat) : List Nat := l.flatMap qcps
theorem qcps_len (c : Nat) : (qcps c).length ≤ 3 := by unfold qcps; split <;> (try split) <;> simp
theorem qrow_len (l : List Nat) : (qrow l).length ≤ 3 * l.length := by
  induction l with
  | nil => simp [qrow]
  | cons c l ih =>
    have := qcps_len c
    simp only [qrow, List.flatMap_cons, List.length_append, List.length_cons] at ih ⊢
    omega
theorem trCps_q (l : List Nat) : trCps qstr l = qrow l := rfl
theorem translate_q {w : World} {prog : Program} {A : Around} {E : Value → Shared → Prop} {s : Shared} {h₀ : Heap} {L : Addr} {m : Str → Option Value} {b : Array UInt8} {t : Tok} {Q : Value → Shared → Prop}
    (X : (hd.heap_39 w.params).In h₀) (F : Fr h₀ L s.heap m) (hb : 0 < b.size) (hs : b.size ≤ 300000)
    (h : ∀ (x : Str) t' k, x.cps.toList = qrow (b.toList.map (·.toNat)) → x.length ≤ 1000000 → Q (.str x t') { s with toks := k }) :
    wpAny (model prog w) A (call (.builtin "str.translate") [.str ⟨b.map (·.toNat)⟩ t, .ref 81]) Q E s := by
  obtain ⟨xs, e, hx⟩ := tab81 w
  have hl := listAt_in (X.keeps F.keep) e
  have e1 : (b.map (·.toNat)).toList = b.toList.map (·.toNat) := by simp
  refine translate_list (g := qstr) hl (by simpa using hb) (fun c hc => ?_) ?_ fun x t' k h1 h2 => h x t' k (by rw [h1]; dsimp only; rw [trCps_q, e1]) h2
  · dsimp only at hc
    rw [e1] at hc
    obtain ⟨u, _, rfl⟩ := List.mem_map.mp hc
    have hu : u.toNat < 256 := u.toNat_lt
    exact ⟨by omega, hx _ hu⟩
  · dsimp only
    rw [trCps_q, e1]
    have := qrow_len (b.toList.map (·.toNat))
    simp only [List.length_map, Array.length_toList] at this
    omega
def CallsTo (w : World) (f : Addr) (vs : List Value) (kw : List (Str × Value)) (deep : Nat) (units : Nat) (post : (h₀ : Heap) → (L : Addr) → (m : Str → Option Value) → (news : List (Addr × Obj)) → (s : Shared) → (Q : Value → Shared → Prop) → Prop) : Prop :=
  ∀ (p : Program) (loose : List Str) (mean : ExcName → Option Value) (mg mb : Str → Option Value) (dp un : Nat) (gd : Option (List Code)) (cn : Str) (cs : Scope) (a : Addr) (ccd : Value) (cl : List (Str × Addr)) (outer : List Env) (A₀ : Around) (base h₀ : Heap) (L : Addr) (m : Str → Option Value) (news : List (Addr × Obj)) (s : Shared) (Q E : Value → Shared → Prop),
    Below A₀ base outer h₀ → Fr h₀ L s.heap m → (hd.heap_39 w.params).In h₀ → News h₀ L s.heap news → Top p loose mean mg mb h₀ → cs.kind = .function →
    dp + deep < recursionLimit → un + units < cLine → post h₀ L m news s Q →
      wpAny (model PySem.Challenge.rw_il0164_01.row.prog w) (ktrTop dp un gd cn cs L a ccd cl outer) (call (.ref f) vs kw) Q E s
def RetsStr (P : Str → Prop) (h₀ : Heap) (L : Addr) (m : Str → Option Value) (news : List (Addr × Obj)) (s : Shared) (Q : Value → Shared → Prop) : Prop :=
  ∀ (x : Str) (t : Tok) (h' : Heap) (tk' : Nat), P x → Fr h₀ L h' m → News h₀ L h' news → Q (.str x t) { s with heap := h', toks := tk' }
def RetsBytes (P : Array UInt8 → Prop) (h₀ : Heap) (L : Addr) (m : Str → Option Value) (news : List (Addr × Obj)) (s : Shared) (Q : Value → Shared → Prop) : Prop :=
  ∀ (x : Array UInt8) (t : Tok) (h' : Heap) (tk' : Nat), P x → Fr h₀ L h' m → News h₀ L h' news → Q (.bytes x t) { s with heap := h', toks := tk' }
theorem use_call {w : World} {f : Addr} {vs : List Value} {kw : List (Str × Value)} {deep units : Nat} {post : (h₀ : Heap) → (L : Addr) → (m : Str → Option Value) → (news : List (Addr × Obj)) → (s : Shared) → (Q : Value → Shared → Prop) → Prop} (C : CallsTo w f vs kw deep units post)
    {p : Program} {loose : List Str} {mean : ExcName → Option Value} {mg mb : Str → Option Value} {dp un : Nat} {gd : Option (List Code)} {cn : Str} {cs : Scope} {a : Addr} {ccd : Value} {cl : List (Str × Addr)} {outer : List Env} {A₀ : Around} {base h₀ : Heap} {L : Addr} {m : Str → Option Value} {news : List (Addr × Obj)} {s : Shared} {Q E : Value → Shared → Prop}
    (B : Below A₀ base outer h₀) (F : Fr h₀ L s.heap m) (X : (hd.heap_39 w.params).In h₀) (N : News h₀ L s.heap news) (T : Top p loose mean mg mb h₀) (hk : cs.kind = .function) (hd : dp + deep < recursionLimit) (hu : un + units < cLine) (hp : post h₀ L m news s Q) :
    wpAny (model PySem.Challenge.rw_il0164_01.row.prog w) (ktrTop dp un gd cn cs L a ccd cl outer) (call (.ref f) vs kw) Q E s := C _ _ _ _ _ _ _ _ _ _ _ _ _ _ _ _ _ _ _ _ _ _ _ B F X N T hk hd hu hp
def RetsInt (P : Int → Prop) (h₀ : Heap) (L : Addr) (m : Str → Option Value) (news : List (Addr × Obj)) (s : Shared) (Q : Value → Shared → Prop) : Prop :=
  ∀ (x : Int) (t : Tok) (h' : Heap) (tk' : Nat), P x → Fr h₀ L h' m → News h₀ L h' news → Q (.int x t) { s with heap := h', toks := tk' }
def Toward {α : Type} (Q Q' : α → Shared → Prop) : Prop := ∀ v s, Q v s → Q' v s
theorem Toward.use {α : Type} {Q Q' : α → Shared → Prop} {v : α} {s : Shared} (h : Toward Q Q') (k : Q v s) : Q' v s := h v s k
theorem Toward.probe {α : Type} {M : Model} {A : Around} {t : Sem α} {E : Value → Shared → Prop} {s : Shared} {Q Q' : α → Shared → Prop} (_ : Toward Q Q') (k : wpAny M A t Q' E s) : wpAny M A t Q' E s := k
theorem wpAny_abs {α : Type} {M : Model} {A : Around} {t : Sem α} {E : Value → Shared → Prop} {s : Shared} {Q : α → Shared → Prop} (h : ∀ Q', Toward Q Q' → wpAny M A t Q' E s) : wpAny M A t Q E s := h Q fun _ _ x => x
theorem byGoal {G : Prop} (h : ∀ G' : Prop, (G → G') → G') : G := h G id
theorem off1_mem {D : Addr} : ∀ {l : List (Addr × Obj)}, LCg.Off1 D l → ∀ p ∈ l, p.1 ≠ D
  | [], _, _, h => nomatch h
  | _ :: _, x, p, h => by
    rcases List.mem_cons.mp h with rfl | h
    · exact x.1
    · exact off1_mem x.2 p h
theorem off1_ne {D a : Addr} {o : Obj} {l : List (Addr × Obj)} (h : LCg.Off1 D l) (m : (a, o) ∈ l) : @Ne Nat a D := off1_mem h _ m
theorem allLt_mem {d : Addr} : ∀ {l : List (Addr × Obj)}, AllLt d l → ∀ p ∈ l, @LT.lt Nat _ p.1 d
  | [], _, _, h => nomatch h
  | _ :: _, x, p, h => by
    rcases List.mem_cons.mp h with rfl | h
    · exact x.1
    · exact allLt_mem x.2 p h
theorem off3_2 {I C D a : Addr} {o : Obj} {l : List (Addr × Obj)} (h : LCg.Off3 I C D l) (m : (a, o) ∈ l) : @Ne Nat a I ∧ @Ne Nat a C ∧ @Ne Nat a D := LCg.Off3.mem h _ m
theorem ints_cons {ys : List Value} {n : Int} {ns : List Int} (h : IntsAre ys (n :: ns)) : ∃ t r, ys = .int n t :: r ∧ IntsAre r ns := by
  cases h with
  | cons _ t h => exact ⟨t, _, rfl, h⟩
theorem isN {M : Model} {A : Around} {E : Value → Shared → Prop} {s : Shared} {Q : Value → Shared → Prop} {p : Pos} {env : Env} (x : String) (h : wpAny M A (eval (.Name (Str.ofString x) p) env) Q E s) : wpAny M A (eval (.Name (Str.ofString x) p) env) Q E s := h
theorem isNC {M : Model} {A : Around} {E : Value → Shared → Prop} {s : Shared} {Q : Value → Shared → Prop} {p : Pos} {a : Scope} {b : List (Str × Addr)} {c : Addr} {env : Env} (x : String) (h : wpAny M A (eval (.Name (Str.ofString x) p) (compEnvC a b c env)) Q E s) : wpAny M A (eval (.Name (Str.ofString x) p) (compEnvC a b c env)) Q E s := h
theorem lk2 {x y : Str} {a b : Addr} (h : (x == y) = false) : List.lookup x [(y, a), (x, b)] = some b := by
  rw [List.lookup_cons, h]
  exact List.lookup_cons_self
theorem lk2l {x y : Str} {a b : Addr} {r : List (Str × Addr)} (h : (x == y) = false) : List.lookup x ((y, a) :: (x, b) :: r) = some b := by
  rw [List.lookup_cons, h]
  exact List.lookup_cons_self
def nmL : List String := ["best", "end", "found", "start", "ahead", "row", "function", "value", "element", "least", "quoted", "lengths", "cost", "signs", "letters", "octets", "place", "whole", "sign", "word"]
theorem isNs {M : Model} {A : Around} {E : Value → Shared → Prop} {s : Shared} {Q : Value → Shared → Prop} {p : Pos} {env : Env} {x : String} (_ : nmL.contains x = true) (h : wpAny M A (eval (.Name (Str.ofString x) p) env) Q E s) : wpAny M A (eval (.Name (Str.ofString x) p) env) Q E s := h
def nmC : List String := ["rest", "opened", "run", "grown", "sign", "place", "digit", "first", "second", "octet", "part", "code", "writing"]
theorem isNCs {M : Model} {A : Around} {E : Value → Shared → Prop} {s : Shared} {Q : Value → Shared → Prop} {p : Pos} {a : Scope} {b : List (Str × Addr)} {c : Addr} {env : Env} {x : String} (_ : nmC.contains x = true) (h : wpAny M A (eval (.Name (Str.ofString x) p) (compEnvC a b c env)) Q E s) : wpAny M A (eval (.Name (Str.ofString x) p) (compEnvC a b c env)) Q E s := h
end Mine
namespace Mine
set_option compiler.extract_closed false
set_option maxRecDepth 100000
set_option maxHeartbeats 8000000
local macro_rules | `(tactic| omega) => `(tactic| first | lia | omega (config := {}))
local macro_rules | `(tactic| walk_at "ONE") => `(tactic| (first | (k_unfold; (try dsimp only)) | (k_end; wrow_close) | walk1 | (dsimp only; walk1) | (leave1; walk_say "STEP leave1"; try dsimp only) | fail "no step"))
local macro_rules | `(tactic| size_fits) => `(tactic| ((simp only [List.size_toArray, Array.size_push, List.length_append, List.length_cons, List.length_nil, PySem.sizeLine_eq]); omega))
local macro_rules | `(tactic| k_all) => `(tactic| with_reducible assumption)
local macro_rules | `(tactic| walk_at "NM") => `(tactic| (repeat (first | with_reducible assumption | refine (if_neg (by decide)).trans ?_ | exact if_pos rfl)))
local macro_rules | `(tactic| walk_at "eval Name") => `(tactic| (k_here; (with_reducible refine isNs (by decide +kernel) ?_); k_dflt (refine nameX_L (by k_asm) (by walk_at "NM") ?_ (by exact rfl) (by kernel_rfl) (by decide))))
local macro_rules | `(tactic| walk_at "eval Name") => `(tactic| (k_here; (with_reducible refine isNCs (by decide +kernel) ?_); k_dflt (first | refine LCgL.ld_own (by k_asm) (by k_mem) (by with_reducible assumption) (by with_reducible assumption) ?_ (by exact rfl) (by kernel_rfl) (by decide) | refine lcf_cell (by k_asm) (by first | exact List.lookup_cons_self | exact lk2l (by kernel_rfl) | exact rfl) (by k_mem) (by with_reducible assumption) ?_ (by exact rfl) (by kernel_rfl) (by decide) | fail "no")))

local macro_rules | `(tactic| k_ne) => `(tactic| (refine neN ?_; (try dsimp only); with_reducible_and_instances first | assumption | exact Ne.symm (by assumption) | exact off1_ne (by assumption) (by k_mem) | exact Ne.symm (off1_ne (by assumption) (by k_mem)) | fail "no"))
-- Feed
section
inductive Cm where
  | o (i : Nat)
  | k (a : Addr)
structure FS where
  own : List (Addr × Obj)
  c : Nat
  tk : Nat
  log : List (Addr × Addr)
def FS.put (st : FS) (i : Nat) (a : Addr) (p : Addr × Obj) (f : Obj → Obj) : FS := { st with own := st.own.set i (p.1, f p.2), log := (a, p.1) :: st.log }
def feed {α : Type} (N : Nat) (K : Frag) (S : Setting) : Nat → List Cm → FS → Sem α → FS × Sem α
  | 0, _, st, t => (st, t)
  | n + 1, cs, st, t => match t with
    | .rule _ k => feed N K S n cs st (k ())
    | .at _ k => feed N K S n cs st (k ())
    | .point _ k => feed N K S n cs st (k ())
    | .fresh k => feed N K S n cs { st with tk := st.tk + 1 } (k st.tk)
    | .ask k => feed N K S n cs st (k S)
    | .alloc o k => match o.isFreed with
      | true => (st, .alloc o k)
      | false => feed N K S n cs { st with own := st.own ++ [(N + st.c, o)], c := st.c + 1 } (k (N + st.c))
    | .load a p k => match cs with
      | .o i :: cs => match st.own[i]? with
        | some q => feed N K S n cs { st with log := (a, q.1) :: st.log } (k q.2)
        | none => (st, .load a p k)
      | .k b :: cs => match K.lookup b with
        | some o => feed N K S n cs { st with log := (a, b) :: st.log } (k o)
        | none => (st, .load a p k)
      | [] => (st, .load a p k)
    | .update a p f k => match cs with
      | .o i :: cs => match st.own[i]? with
        | some q => match (f q.2).isFreed with
          | true => (st, .update a p f k)
          | false => feed N K S n cs (st.put i a q f) (k ())
        | none => (st, .update a p f k)
      | _ => (st, .update a p f k)
    | t => (st, t)
structure Sat (N : Nat) (hs h₀ : Heap) (c : Nat) (own : List (Addr × Obj)) (h : Heap) : Prop where
  size : h.objs.size = N + c
  mine : ∀ p ∈ own, h.get? p.1 = some p.2
  nd : (own.map (·.1)).Nodup
  fresh : ∀ p ∈ own, h₀.get? p.1 = none
  keep : ∀ b o, b ∉ own.map (·.1) → hs.get? b = some o → h.get? b = some o
  old : ∀ b o, h₀.get? b = some o → h.get? b = some o
def LogOk (l : List (Addr × Addr)) : Prop := l.map (·.1) = l.map (·.2)
theorem LogOk.head {a b : Addr} {l : List (Addr × Addr)} (h : LogOk ((a, b) :: l)) : a = b ∧ LogOk l := by
  unfold LogOk at h ⊢
  simp only [List.map_cons, List.cons.injEq] at h
  exact h
section
variable {N : Nat} {hs h₀ : Heap} {c : Nat} {own : List (Addr × Obj)} {h : Heap}
theorem Sat.push {o : Obj} (X : Sat N hs h₀ c own h) (ho : o.isFreed = false) : Sat N hs h₀ (c + 1) (own ++ [(N + c, o)]) (h.push o) where
  size := by show (h.objs.push o).size = _; rw [Array.size_push, X.size]; rfl
  mine := fun p hp => by
    rcases List.mem_append.mp hp with hp | hp
    · exact Heap.get?_push_of_some o (X.mine p hp)
    · rw [List.mem_singleton.mp hp]; show (h.push o).get? (N + c) = some o; rw [← X.size]; exact Heap.get?_push_size h ho
  nd := by
    rw [List.map_append, List.nodup_append]
    refine ⟨X.nd, by simp, fun a ha b hb => ?_⟩
    obtain ⟨p, hp, rfl⟩ := List.mem_map.mp ha
    have := Heap.lt_size (X.mine p hp)
    rw [X.size] at this
    have hb : b = N + c := by simpa using hb
    subst hb
    exact Nat.ne_of_lt this
  fresh := fun p hp => by
    rcases List.mem_append.mp hp with hp | hp
    · exact X.fresh p hp
    · rw [List.mem_singleton.mp hp]
      cases e : h₀.get? (N + c) with
      | none => rfl
      | some o' => exact absurd (Heap.lt_size (X.old _ _ e)) (by rw [X.size]; exact Nat.lt_irrefl _)
  keep := fun b o' hb e => Heap.get?_push_of_some o (X.keep b o' (fun hm => hb (by rw [List.map_append]; exact List.mem_append_left _ hm)) e)
  old := fun b o' e => Heap.get?_push_of_some o (X.old b o' e)
theorem Sat.upd {i : Nat} {p : Addr × Obj} {f : Obj → Obj} (X : Sat N hs h₀ c own h) (hi : own[i]? = some p) (hf : (f p.2).isFreed = false) : Sat N hs h₀ c (own.set i (p.1, f p.2)) (h.update p.1 f) := by
  have hlt : i < own.length := (List.getElem?_eq_some_iff.mp hi).1
  have hp : p ∈ own := List.mem_of_getElem? hi
  have hmap : (own.set i (p.1, f p.2)).map (·.1) = own.map (·.1) := by
    rw [List.map_set]
    refine List.ext_getElem? fun j => ?_
    rw [List.getElem?_set]
    by_cases hj : i = j
    · subst hj
      have hlt' : i < (own.map (·.1)).length := by rw [List.length_map]; exact hlt
      rw [if_pos rfl, if_pos hlt', List.getElem?_map, hi]; rfl
    · rw [if_neg hj]
  refine ⟨?_, ?_, by rw [hmap]; exact X.nd, ?_, ?_, ?_⟩
  · rw [← X.size]
    show (h.update p.1 f).objs.size = _
    unfold Heap.update
    simp
  · intro q hq
    obtain ⟨j, hj⟩ := List.getElem?_of_mem hq
    rw [List.getElem?_set] at hj
    by_cases e : i = j
    · subst e
      rw [if_pos rfl, if_pos hlt] at hj
      cases hj
      exact Heap.get?_update_self f (X.mine p hp) hf
    · rw [if_neg e] at hj
      refine Heap.get?_update_of_ne f (fun e2 => e ?_) (X.mine q (List.mem_of_getElem? hj))
      have h1 : (own.map (·.1))[i]? = some p.1 := by rw [List.getElem?_map, hi]; rfl
      have h2 : (own.map (·.1))[j]? = some p.1 := by rw [List.getElem?_map, hj, e2]; rfl
      have hj' : j < (own.map (·.1)).length := by rw [List.length_map]; exact (List.getElem?_eq_some_iff.mp hj).1
      exact (List.getElem?_inj (by rw [List.length_map]; exact hlt) X.nd).mp (h1.trans h2.symm)
  · intro q hq
    have hm : q.1 ∈ own.map (·.1) := by rw [← hmap]; exact List.mem_map_of_mem hq
    obtain ⟨r, hr, e⟩ := List.mem_map.mp hm
    rw [← e]; exact X.fresh r hr
  · intro b o hb e
    rw [hmap] at hb
    exact Heap.get?_update_of_ne f (fun q => hb (q ▸ List.mem_map_of_mem hp)) (X.keep b o hb e)
  · intro b o e
    refine Heap.get?_update_of_ne f (fun q => ?_) (X.old b o e)
    have := X.fresh p hp
    rw [q, e] at this
    cases this
end
theorem feed_log {α : Type} {N : Nat} {K : Frag} {S : Setting} : ∀ (n : Nat) (cs : List Cm) (st : FS) (t : Sem α), LogOk (feed N K S n cs st t).1.log → LogOk st.log := by
  intro n
  induction n with
  | zero => intro cs st t h; exact h
  | succ n ih =>
    intro cs st t h
    unfold feed at h
    split at h
    · exact ih _ _ _ h
    · exact ih _ _ _ h
    · exact ih _ _ _ h
    · exact ih _ { st with tk := st.tk + 1 } _ h
    · exact ih _ _ _ h
    · split at h
      · exact h
      · exact ih _ { st with own := st.own ++ [(N + st.c, _)], c := st.c + 1 } _ h
    · split at h
      · split at h
        · exact (ih _ _ _ h).head.2
        · exact h
      · split at h
        · exact (ih _ _ _ h).head.2
        · exact h
      · exact h
    · split at h
      · split at h
        · split at h
          · exact h
          · exact (ih _ _ _ h).head.2
        · exact h
      · exact h
    · exact h
theorem feed_go {prog : Program} {w : World} {A : Around} {E : Value → Shared → Prop} {α : Type} {N : Nat} {hs h₀ : Heap} {K : Frag} {Q : α → Shared → Prop} (X : K.In h₀) : ∀ (n : Nat) (cs : List Cm) (st : FS) (t : Sem α) (s : Shared),
    LogOk (feed N K ⟨prog, w.params⟩ n cs st t).1.log → Sat N hs h₀ st.c st.own s.heap → s.toks = st.tk →
    (∀ h', Sat N hs h₀ (feed N K ⟨prog, w.params⟩ n cs st t).1.c (feed N K ⟨prog, w.params⟩ n cs st t).1.own h' → wpAny (model prog w) A (feed N K ⟨prog, w.params⟩ n cs st t).2 Q E { s with heap := h', toks := (feed N K ⟨prog, w.params⟩ n cs st t).1.tk }) → wpAny (model prog w) A t Q E s := by
  intro n
  have stop : ∀ (st : FS) (t : Sem α) (s : Shared), Sat N hs h₀ st.c st.own s.heap → s.toks = st.tk → (∀ h', Sat N hs h₀ st.c st.own h' → wpAny (model prog w) A t Q E { s with heap := h', toks := st.tk }) → wpAny (model prog w) A t Q E s := by
    intro st t s hS ht h
    have := h s.heap hS
    rw [← ht] at this
    exact this
  induction n with
  | zero => intro cs st t s _ hS ht h; exact stop st t s hS ht h
  | succ n ih =>
    intro cs st t s hl hS ht h
    cases t with
    | rule a k => exact fun Γ p hΓ => ih cs st (k ()) s hl hS ht h Γ p hΓ
    | «at» a k => exact wpAny_bind (m := standAt a) (wpAny_standAt (ih cs st (k ()) s hl hS ht h))
    | point a k => exact fun Γ p hΓ => ih cs st (k ()) s hl hS ht h Γ p hΓ
    | fresh k =>
      have := ih cs { st with tk := st.tk + 1 } (k st.tk) { s with toks := s.toks + 1 } hl hS (by rw [ht]) h
      rw [← ht] at this
      exact wpAny_bind (m := fresh) (wpAny_fresh this)
    | ask k => exact wpAny_bind (m := ask) (wpAny_askSetting (ih cs st (k _) s hl hS ht h))
    | alloc o k =>
      unfold feed at hl h
      dsimp only at hl h
      split at hl
      · rename_i ho
        simp only [ho] at h
        exact stop st _ s hS ht h
      · rename_i ho
        simp only [ho] at h
        have := ih cs { st with own := st.own ++ [(N + st.c, o)], c := st.c + 1 } _ { s with heap := s.heap.push o } hl (hS.push ho) ht h
        rw [← hS.size] at this
        exact wpAny_bind (m := alloc o) (wpAny_alloc this)
    | load a p k =>
      unfold feed at hl h
      dsimp only at hl h
      split at hl
      · rename_i i cs
        split at hl
        · rename_i q hq
          simp only [hq] at h
          have e := (feed_log _ _ _ _ hl).head.1
          have := ih cs { st with log := (a, q.1) :: st.log } _ s hl hS ht h
          subst e
          exact wpAny_bind (m := loadPart _ p) (wpAny_loadPart (hS.mine _ (List.mem_of_getElem? hq)) this)
        · rename_i hq
          simp only [hq] at h
          exact stop st _ s hS ht h
      · rename_i b cs
        split at hl
        · rename_i o hq
          simp only [hq] at h
          have e := (feed_log _ _ _ _ hl).head.1
          have := ih cs { st with log := (a, b) :: st.log } _ s hl hS ht h
          subst e
          exact wpAny_bind (m := loadPart _ p) (wpAny_loadPart (hS.old _ _ (X _ _ hq)) this)
        · rename_i hq
          simp only [hq] at h
          exact stop st _ s hS ht h
      · exact stop st _ s hS ht h
    | update a p f k =>
      unfold feed at hl h
      dsimp only at hl h
      split at hl
      · rename_i i cs
        split at hl
        · rename_i q hq
          split at hl
          · rename_i hf
            simp only [hq, hf] at h
            exact stop st _ s hS ht h
          · rename_i hf
            simp only [hq, hf] at h
            have e : a = q.1 := (feed_log _ _ _ _ hl).head.1
            subst e
            have := ih cs (st.put i q.1 q f) (k ()) { s with heap := s.heap.update q.1 f } hl (hS.upd hq hf) ht h
            exact wpAny_bind (m := updatePart _ p f) (wpAny_updatePart (hS.mine _ (List.mem_of_getElem? hq)) this)
        · rename_i hq
          simp only [hq] at h
          exact stop st _ s hS ht h
      · rename_i hno
        split at h
        · rename_i i cs
          exact absurd rfl (hno _ _)
        · exact stop st _ s hS ht h
    | _ => exact stop st _ s hS ht h
end
-- Kd
section
theorem feed_leaf {prog : Program} {w : World} {A : Around} {E : Value → Shared → Prop} {α : Type} {N : Nat} {hs h₀ : Heap} {K : Frag} {Q : α → Shared → Prop} {t : Sem α} {s : Shared} (X : K.In h₀) (n : Nat) (cs : List Cm) (st : FS) {v : α}
    (hS : Sat N hs h₀ st.c st.own s.heap) (ht : s.toks = st.tk) (h : ∀ h', Sat N hs h₀ (feed N K ⟨prog, w.params⟩ n cs st t).1.c (feed N K ⟨prog, w.params⟩ n cs st t).1.own h' → Q v { s with heap := h', toks := (feed N K ⟨prog, w.params⟩ n cs st t).1.tk })
    (e1 : (feed N K ⟨prog, w.params⟩ n cs st t).1.log.map (·.1) = (feed N K ⟨prog, w.params⟩ n cs st t).1.log.map (·.2)) (e2 : (feed N K ⟨prog, w.params⟩ n cs st t).2 = .pure v) : wpAny (model prog w) A t Q E s :=
  feed_go X n cs st t s e1 hS ht fun h' hS' => by rw [e2]; exact wpAny_pure (h h' hS')
noncomputable def ctkFn (p : Params) : FuncData := match (hd.heap_39 p).lookup 130 with | some ⟨_, _, .func fd, _⟩ => fd | _ => default
noncomputable def ctkStmt (p : Params) : Stmt := match (ctkFn p).body with | .stmts (s :: _) => s | _ => .Pass default
noncomputable abbrev ctkEnv (p : Params) (L : Addr) : Env := envOfC "cmp_to_key" (ctkFn p).scope L 130 (.ref 129)
noncomputable def stName (p : Params) : Str := match ctkStmt p with | .ClassDef a .. => a | _ => default
noncomputable def stBases (p : Params) : List PySem.Expr := match ctkStmt p with | .ClassDef _ b .. => b | _ => []
noncomputable def stBody (p : Params) : List Stmt := match ctkStmt p with | .ClassDef _ _ _ b .. => b | _ => []
noncomputable def stScope (p : Params) : Scope := match ctkStmt p with | .ClassDef _ _ _ _ _ _ b .. => b | _ => default
noncomputable def stStat (p : Params) : List Str := match ctkStmt p with | .ClassDef _ _ _ _ _ _ _ _ _ b _ => b | _ => default
noncomputable def stPos (p : Params) : Pos := match ctkStmt p with | .ClassDef _ _ _ _ _ _ _ _ _ _ b => b | _ => default
theorem ctkStmt_is (p : Params) : ctkStmt p = .ClassDef "K" (stBases p) [] (stBody p) [] [] (stScope p) none "K" (stStat p) (stPos p) := by kernel_rfl
noncomputable abbrev K4 (p : Params) (sl : Array (Option Value)) : Frag := (4, ⟨.type "module", some 0, .plain, sl⟩) :: hd.heap_39 p
end
-- Kst
section
structure KP where
  w : World
  sl : Array (Option Value)
  N : Nat
  L : Nat
  tk : Nat
  oc : Value
  od : Option Addr
  os : Array (Option Value)
noncomputable def fd {α : Type} (y : KP) (n : Nat) (cs : List Cm) (st : FS) (t : Sem α) : FS × Sem α := feed y.N (K4 y.w.params y.sl) ⟨PySem.Challenge.rw_il0164_01.row.prog, y.w.params⟩ n cs st t
noncomputable def nx {α : Type} (r : FS × Sem α) : FS := { r.1 with log := [] }
theorem leaf {y : KP} {A : Around} {E : Value → Shared → Prop} {α : Type} {hs h₀ : Heap} {Q : α → Shared → Prop} {t : Sem α} {s : Shared} (X : (K4 y.w.params y.sl).In h₀) (n : Nat) (cs : List Cm) (st st' : FS) (v : α)
    (hS : Sat y.N hs h₀ st.c st.own s.heap) (ht : s.toks = st.tk) (he : st' = nx (fd y n cs st t)) (h : ∀ h' tk', Sat y.N hs h₀ st'.c st'.own h' → tk' = st'.tk → Q v { s with heap := h', toks := tk' })
    (e1 : (fd y n cs st t).1.log.map (·.1) = (fd y n cs st t).1.log.map (·.2)) (e2 : (fd y n cs st t).2 = .pure v) : wpAny (model PySem.Challenge.rw_il0164_01.row.prog y.w) A t Q E s := by
  subst he
  exact feed_leaf X n cs st hS ht (fun h' hS' => h h' _ hS' rfl) e1 e2
theorem leafb {y : KP} {A : Around} {E : Value → Shared → Prop} {α β : Type} {hs h₀ : Heap} {Q : β → Shared → Prop} {t : Sem α} {f : α → Sem β} {s : Shared} (X : (K4 y.w.params y.sl).In h₀) (n : Nat) (cs : List Cm) (st st' : FS) (v : α)
    (hS : Sat y.N hs h₀ st.c st.own s.heap) (ht : s.toks = st.tk) (he : st' = nx (fd y n cs st t)) (h : ∀ h' tk', Sat y.N hs h₀ st'.c st'.own h' → tk' = st'.tk → wpAny (model PySem.Challenge.rw_il0164_01.row.prog y.w) A (f v) Q E { s with heap := h', toks := tk' })
    (e1 : (fd y n cs st t).1.log.map (·.1) = (fd y n cs st t).1.log.map (·.2)) (e2 : (fd y n cs st t).2 = .pure v) : wpAny (model PySem.Challenge.rw_il0164_01.row.prog y.w) A (t >>= f) Q E s :=
  wpAny_bind (leaf X n cs st st' v hS ht he h e1 e2)
theorem Sat.start {g h : Heap} {L : Addr} {own : List (Addr × Obj)} {m : Str → Option Value} (F : Fr g L h m) (N : News g L h own) (nd : (own.map (·.1)).Nodup) : Sat h.objs.size h g 0 own h where
  size := rfl
  mine := fun p hp => (N p hp).1
  nd := nd
  fresh := fun p hp => (N p hp).2.2
  keep := fun _ _ _ e => e
  old := fun b o e => F.keep b o e
noncomputable def s0 (y : KP) : FS := ⟨[(125, tabObj #[]), (y.L + 1, ⟨y.oc, y.od, .cell (some (.ref 146)), y.os⟩)], 0, y.tk, []⟩
noncomputable def s1 (y : KP) : FS := nx (fd y 99 [] (s0 y) (newTuple [.type "object"]))
theorem evalArgs1 {prog : Program} {w : World} {A : Around} {E : Value → Shared → Prop} {s : Shared} {f : Value} {pos : Pos} {t : Sem Value} {Q : Args → Shared → Prop} (h : wpAny (model prog w) A t (fun v s' => Q ⟨[v], []⟩ s') E s) :
    wpAny (model prog w) A (evalArgs f false (backTo pos [(false, t)]) (backToKw pos [])) Q E s := by
  unfold evalArgs
  refine wpAny_bind ?_
  have e : ∀ t : Sem Value, spliced (backTo pos [(false, t)]) = (t >>= fun v => holding [v] (pure []) >>= fun r => pure ([v] ++ r)) := fun t => by kernel_rfl
  dsimp only
  rw [e]
  refine wpAny_bind (wpAny_mono h (fun v s' hv => ?_) fun _ _ e => e)
  refine wpAny_bind (wpAny_holding (wpAny_pure (wpAny_pure ?_)))
  refine wpAny_bind (wpAny_pure (wpAny_holding ?_))
  exact wpAny_of_eq (a := ⟨[v], []⟩) (by kernel_rfl) hv
def contOf {α : Type} : Sem α → Result → Sem α
  | .call _ _ _ _ k => k
  | t => fun _ => t
def liveOf {α : Type} : Sem α → List Value
  | .call _ _ _ l _ => l
  | _ => []
def gdOf {α : Type} : Sem α → Bool
  | .call _ _ g _ _ => g
  | _ => false
section
variable {y : KP} {A : Around} {E : Value → Shared → Prop} {α : Type} {hs h₀ : Heap}
theorem go_call {Q : α → Shared → Prop} {t : Sem α} {s : Shared} (X : (K4 y.w.params y.sl).In h₀) (n : Nat) (cs : List Cm) (st st' : FS) (c : Code)
    (hS : Sat y.N hs h₀ st.c st.own s.heap) (ht : s.toks = st.tk) (he : st' = nx (fd y n cs st t))
    (h : ∀ h' tk', Sat y.N hs h₀ st'.c st'.own h' → tk' = st'.tk → codeAny (model PySem.Challenge.rw_il0164_01.row.prog y.w) A c (fun r s' => wpAny (model PySem.Challenge.rw_il0164_01.row.prog y.w) A (contOf (fd y n cs st t).2 r) Q E s') { s with heap := h', toks := tk' })
    (e1 : (fd y n cs st t).1.log.map (·.1) = (fd y n cs st t).1.log.map (·.2)) (e2 : (fd y n cs st t).2 = .call c none (gdOf (fd y n cs st t).2) (liveOf (fd y n cs st t).2) (contOf (fd y n cs st t).2)) : wpAny (model PySem.Challenge.rw_il0164_01.row.prog y.w) A t Q E s := by
  subst he
  refine feed_go X n cs st t s e1 hS ht fun h' hS' => ?_
  show wpAny _ A (fd y n cs st t).2 Q E _
  rw [e2]
  refine wpAny_mono (t := (.call c none (gdOf (fd y n cs st t).2) (liveOf (fd y n cs st t).2) fun r => .pure r : Sem Result) >>= contOf (fd y n cs st t).2) (wpAny_bind ?_) (fun _ _ h => h) fun _ _ h => h
  intro Γ p hΓ
  show wpCode _ _ _ _ _
  exact h h' _ hS' rfl _ p rfl (by have := hΓ.enter c none p (by intro x; cases x); exact this)
theorem go_done {R : Result → Shared → Prop} {c : Code} {s : Shared} (X : (K4 y.w.params y.sl).In h₀) (n : Nat) (cs : List Cm) (st st' : FS) (v : Value)
    (hS : Sat y.N hs h₀ st.c st.own s.heap) (ht : s.toks = st.tk) (he : st' = nx (fd y n cs st ((model PySem.Challenge.rw_il0164_01.row.prog y.w).den c)))
    (h : ∀ h' tk', Sat y.N hs h₀ st'.c st'.own h' → tk' = st'.tk → R (.ok (.ret v)) { s with heap := h', toks := tk' })
    (e1 : (fd y n cs st ((model PySem.Challenge.rw_il0164_01.row.prog y.w).den c)).1.log.map (·.1) = (fd y n cs st ((model PySem.Challenge.rw_il0164_01.row.prog y.w).den c)).1.log.map (·.2)) (e2 : (fd y n cs st ((model PySem.Challenge.rw_il0164_01.row.prog y.w).den c)).2 = .pure (.done (.ret v))) :
    codeAny (model PySem.Challenge.rw_il0164_01.row.prog y.w) A c R s :=
  codeAny_of_tree (leaf X n cs st st' (.done (.ret v)) hS ht he h e1 e2)
theorem go_again {R : Result → Shared → Prop} {c c' : Code} {s : Shared} (X : (K4 y.w.params y.sl).In h₀) (n : Nat) (cs : List Cm) (st st' : FS)
    (hS : Sat y.N hs h₀ st.c st.own s.heap) (ht : s.toks = st.tk) (he : st' = nx (fd y n cs st ((model PySem.Challenge.rw_il0164_01.row.prog y.w).den c))) (hq : c'.quiet = true)
    (h : ∀ h' tk', Sat y.N hs h₀ st'.c st'.own h' → tk' = st'.tk → codeAny (model PySem.Challenge.rw_il0164_01.row.prog y.w) A c' R { s with heap := h', toks := tk' })
    (e1 : (fd y n cs st ((model PySem.Challenge.rw_il0164_01.row.prog y.w).den c)).1.log.map (·.1) = (fd y n cs st ((model PySem.Challenge.rw_il0164_01.row.prog y.w).den c)).1.log.map (·.2)) (e2 : (fd y n cs st ((model PySem.Challenge.rw_il0164_01.row.prog y.w).den c)).2 = .pure (.again c')) :
    codeAny (model PySem.Challenge.rw_il0164_01.row.prog y.w) A c R s :=
  codeAny_of_tree (leaf X n cs st st' (.again c') hS ht he (fun h' tk' a b => ⟨hq, h h' tk' a b⟩) e1 e2)
end
theorem go_b {prog : Program} {w : World} {A : Around} {R : Result → Shared → Prop} {s : Shared} {id : String} {args : Args} {b : Builtin} (hb : entryFor table id = some b) (hq : (Code.builtin id args).quiet = true) (hc : checkBuiltinCall id args = pure ())
    (h : wpAny (model prog w) (A.under (.builtin id args)) (b args) (fun fin s' => match fin with | .done f => R (.ok f) s' | .again c' => c'.quiet = true ∧ codeAny (model prog w) A c' R s') (fun e s' => R (.error e) s') s) : codeAny (model prog w) A (.call (.builtin id) args) R s :=
  codeAny_call_builtin_at hq hb (wpAny_of_eq hc h)
abbrev aGet (y : KP) : Args := ⟨[.type "type", .str "__prepare__" (y.tk + 1)], []⟩
abbrev aCmd : Args := ⟨[.builtin "type.__prepare__", .none, .type "type"], []⟩
open PySem.Builtin in
noncomputable def s2 (y : KP) : FS := nx (fd y 99 [] (s1 y) (mkText "K"))
noncomputable def s3 (y : KP) : FS := nx (fd y 99 [] (s2 y) (getAttr? (.type "type") "__prepare__"))
noncomputable def k3 (y : KP) : Result → Sem (Option Value) := contOf (fd y 99 [] (s2 y) (getAttr? (.type "type") "__prepare__")).2
noncomputable def s4 (y : KP) : FS := nx (fd y 99 [] (s3 y) (PySem.Builtin.«type.__getattribute__» (aGet y)))
noncomputable def k4 (y : KP) : Result → Sem PySem.Fin := contOf (fd y 99 [] (s3 y) (PySem.Builtin.«type.__getattribute__» (aGet y))).2
noncomputable def s5 (y : KP) : FS := nx (fd y 99 [] (s4 y) (PySem.Builtin.«classmethod_descriptor.__get__» aCmd))
noncomputable def s6 (y : KP) : FS := nx (fd y 99 [] (s5 y) (k4 y (.ok (.ret (.ref (y.N + 1))))))
noncomputable def s7 (y : KP) : FS := nx (fd y 99 [] (s6 y) (k3 y (.ok (.ret (.ref (y.N + 1))))))
theorem go_e {prog : Program} {w : World} {A : Around} {R : Result → Shared → Prop} {s : Shared} {id : String} {args : Args} {b : Builtin} (hb : entryFor table id = some b)
    (h : wpAny (model prog w) (A.under (.builtin id args)) (b args) (fun fin s' => match fin with | .done f => R (.ok f) s' | .again c' => c'.quiet = true ∧ codeAny (model prog w) A c' R s') (fun e s' => R (.error e) s') s) : codeAny (model prog w) A (.builtin id args) R s := by
  refine codeAny_of_tree ?_
  show wpAny _ _ (match entryFor table id with | some b => b args | none => unsupported ((withoutEnding? id "#data").getD id)) _ _ s
  rw [hb]; exact h
abbrev cPrep (y : KP) : Code := .call (.ref (y.N + 1)) ⟨[.str "K" y.tk, .ref y.N], []⟩
abbrev aPrep (y : KP) : Args := ⟨[.type "type", .str "K" y.tk, .ref y.N], []⟩
noncomputable def s8 (y : KP) : FS := nx (fd y 99 [.o 3] (s7 y) ((model PySem.Challenge.rw_il0164_01.row.prog y.w).den (cPrep y)))
noncomputable def s9 (y : KP) : FS := nx (fd y 99 [] (s8 y) (PySem.Builtin.«type.__prepare__» (aPrep y)))
noncomputable def s10 (y : KP) : FS := nx (fd y 99 [] (s9 y) (notTheModulesDict "class:the-namespace-that-__prepare__-gave" (y.N + 2)))
noncomputable def s11 (y : KP) : FS := nx (fd y 99 [.o 4] (s10 y) (specialOf (.ref (y.N + 2)) "__getitem__"))
noncomputable def s12 (y : KP) : FS := nx (fd y 199 [.k 129, .o 0, .o 0, .o 0, .o 0] (s11 y) (classCode (ctkEnv y.w.params y.L) (stPos y.w.params) (firstLineOf [] (stPos y.w.params)) "K" (qualnameIn (ctkEnv y.w.params y.L) "K" "K") (stScope y.w.params)))
noncomputable def s13 (y : KP) : FS := nx (fd y 99 [.k 3, .k 4] (s12 y) (builtinsFor 3 0))
noncomputable def s14 (y : KP) : FS := nx (fd y 99 [.k 3] (s13 y) (newBodyFrame (.ref (y.N + 5)) 3 (y.N + 2) 0))
theorem go_fin {y : KP} {A : Around} {hs h₀ : Heap} {R : Result → Shared → Prop} {c : Code} {s : Shared} (X : (K4 y.w.params y.sl).In h₀) (n : Nat) (cs : List Cm) (st st' : FS) (v : Flow)
    (hS : Sat y.N hs h₀ st.c st.own s.heap) (ht : s.toks = st.tk) (he : st' = nx (fd y n cs st ((model PySem.Challenge.rw_il0164_01.row.prog y.w).den c)))
    (h : ∀ h' tk', Sat y.N hs h₀ st'.c st'.own h' → tk' = st'.tk → R (.ok v) { s with heap := h', toks := tk' })
    (e1 : (fd y n cs st ((model PySem.Challenge.rw_il0164_01.row.prog y.w).den c)).1.log.map (·.1) = (fd y n cs st ((model PySem.Challenge.rw_il0164_01.row.prog y.w).den c)).1.log.map (·.2)) (e2 : (fd y n cs st ((model PySem.Challenge.rw_il0164_01.row.prog y.w).den c)).2 = .pure (.done v)) :
    codeAny (model PySem.Challenge.rw_il0164_01.row.prog y.w) A c R s :=
  codeAny_of_tree (leaf X n cs st st' (.done v) hS ht he h e1 e2)
noncomputable def kEnv (y : KP) : Env := { scope := stScope y.w.params, locals := y.N + 2, globals := (ctkEnv y.w.params y.L).globals, cells := [(Str.ofString "mycmp", y.L + 1)], qual := qualnameIn (ctkEnv y.w.params y.L) "K" "K" ++ ".", code := .ref (y.N + 5), frame := some (y.N + 6) }
abbrev vMod : Value := .str "law_il0164_01" 1970
noncomputable def s15 (y : KP) : FS := nx (fd y 99 [.o 4, .o 4, .k 3] (s14 y) (loadName (kEnv y) "__name__"))
noncomputable def s16 (y : KP) : FS := nx (fd y 99 [.o 4, .o 4, .o 4] (s15 y) (storeName (kEnv y) "__module__" vMod))
noncomputable def vQual (y : KP) : Value := .str (qualnameIn (ctkEnv y.w.params y.L) "K" "K") (s16 y).tk
noncomputable def s17 (y : KP) : FS := nx (fd y 99 [] (s16 y) (mkText (qualnameIn (ctkEnv y.w.params y.L) "K" "K")))
noncomputable def s18 (y : KP) : FS := nx (fd y 99 [.o 4, .o 4, .o 4] (s17 y) (storeName (kEnv y) "__qualname__" (vQual y)))
noncomputable def vLine (y : KP) : Value := .int (firstLineOf [] (stPos y.w.params)) (s18 y).tk
noncomputable def s19 (y : KP) : FS := nx (fd y 99 [] (s18 y) (mkInt (firstLineOf [] (stPos y.w.params))))
noncomputable def s20 (y : KP) : FS := nx (fd y 99 [.o 4, .o 4, .o 4] (s19 y) (storeName (kEnv y) "__firstlineno__" (vLine y)))
def csBody : List Cm := [.o 4, .o 4, .o 4, .o 4, .o 4, .o 4, .o 7, .o 6, .o 6, .o 6, .o 6, .k 3, .k 4, .k 3, .o 4, .o 4, .o 4, .o 7, .o 6, .o 6, .o 6, .o 6, .k 3, .k 4, .k 3, .o 4, .o 4, .o 4, .o 7, .o 6, .o 6, .o 6, .o 6, .k 3, .k 4, .k 3, .o 4, .o 4, .o 4, .o 7, .o 6, .o 6, .o 6, .o 6, .k 3, .k 4, .k 3, .o 4, .o 4, .o 4, .o 7, .o 6, .o 6, .o 6, .o 6, .k 3, .k 4, .k 3, .o 4, .o 4, .o 4, .o 7, .o 6, .o 6, .o 6, .o 6, .k 3, .k 4, .k 3, .o 4, .o 4, .o 4, .o 4, .o 4, .o 4]
noncomputable def s21 (y : KP) : FS := nx (fd y 999 csBody (s20 y) ((model PySem.Challenge.rw_il0164_01.row.prog y.w).den (.body (stBody y.w.params) (kEnv y))))
noncomputable abbrev vObj (y : KP) : List Value := [.str "obj" (s21 y).tk]
noncomputable def s22 (y : KP) : FS := nx (fd y 99 [] (s21 y) (List.mapM mkText (stStat y.w.params)))
noncomputable def s23 (y : KP) : FS := nx (fd y 99 [] (s22 y) (newTextTuple (vObj y)))
noncomputable def s24 (y : KP) : FS := nx (fd y 99 [.o 4, .o 4, .o 4] (s23 y) (storeName (kEnv y) "__static_attributes__" (.ref (y.N + 55))))
abbrev aType (y : KP) : Args := ⟨[.str "K" y.tk, .ref y.N, .ref (y.N + 2)], []⟩
abbrev aCall (y : KP) : Args := ⟨[.type "type", .str "K" y.tk, .ref y.N, .ref (y.N + 2)], []⟩
noncomputable def s25 (y : KP) : FS := nx (fd y 99 [] (s24 y) ((model PySem.Challenge.rw_il0164_01.row.prog y.w).den (.call (.type "type") (aType y))))
noncomputable def s26 (y : KP) : FS := nx (fd y 99 [] (s25 y) (PySem.Builtin.«type.__call__» (aCall y)))
noncomputable def k26 (y : KP) : Result → Sem PySem.Fin := contOf (fd y 99 [] (s25 y) (PySem.Builtin.«type.__call__» (aCall y))).2
noncomputable def ownAt (st : FS) (i : Nat) : Obj := match st.own[i]? with | some (p : Addr × Obj) => p.2 | none => default
noncomputable def kEnts (y : KP) : Array DictEntry := match (ownAt (s26 y) 4).data with | .dict es _ => es | _ => #[]
theorem wpAny_cast {M : Model} {A : Around} {E : Value → Shared → Prop} {s : Shared} {α : Type} {t t' : Sem α} {Q : α → Shared → Prop} (e : t = t') (h : wpAny M A t' Q E s) : wpAny M A t Q E s := e ▸ h
theorem codeAny_cast {M : Model} {A : Around} {s : Shared} {c c' : Code} {R : Result → Shared → Prop} (e : c = c') (h : codeAny M A c' R s) : codeAny M A c R s := e ▸ h
theorem dw_own (a : Addr) : (List.dropWhile (fun x => x != Value.ref a) [Value.ref a, Value.type "object"]).drop 1 = [Value.type "object"] := by simp
end
-- Sup
section
abbrev kCls (cd : ClassData) (a : Addr) : ClassData := { cd with mro := [.ref a, .type "object"], qualname := Str.ofString "cmp_to_key.<locals>.K" }
abbrev kObj (cd : ClassData) (od : Option Addr) (sl : Array (Option Value)) (a : Addr) : Obj := ⟨.type "type", od, .cls (kCls cd a), sl⟩
noncomputable def u0 (y : KP) (cd : ClassData) (od : Option Addr) (sl : Array (Option Value)) (a : Addr) : FS := ⟨[(a, kObj cd od sl a)], 0, y.tk, []⟩
theorem Sat.cast {N : Nat} {hs h₀ h : Heap} {c c' : Nat} {own own' : List (Addr × Obj)} (X : Sat N hs h₀ c own h) (e1 : own = own') (e2 : c = c') : Sat N hs h₀ c' own' h := by subst e1 e2; exact X
abbrev supObj (a : Addr) : Obj := { cls := .type "super", data := .fields #[.ref a, .ref a, .ref a] }
theorem sup1 {y : KP} {cd : ClassData} {od : Option Addr} {sl : Array (Option Value)} {a : Addr} {A : Around} {R : Result → Shared → Prop} {s : Shared} {hs g : Heap} (X4 : (K4 y.w.params y.sl).In g) (S0 : Sat y.N hs g 0 [(a, kObj cd od sl a)] s.heap) (ht0 : s.toks = y.tk)
    (hR : ∀ h' tk', Sat y.N hs g 1 [(a, kObj cd od sl a), (y.N, supObj a)] h' → R (.ok (.ret (.ref y.N))) { s with heap := h', toks := tk' }) : codeAny (model PySem.Challenge.rw_il0164_01.row.prog y.w) A (.call (.type "super") ⟨[.ref a, .ref a], []⟩) R s := by
  refine go_again X4 999 [] (u0 y cd od sl a) _ (c' := .builtin "type.__call__" ⟨[.type "super", .ref a, .ref a], []⟩) S0 ht0 rfl (by kernel_rfl) (fun h51 tk51 S51 ht51 => ?_) (by kernel_rfl) (by kernel_rfl)
  refine go_e (b := PySem.Builtin.«type.__call__») (entryFor_of_tree (by kernel_rfl)) ?_
  refine go_call X4 999 [.o 0] _ _ (.call (.builtin "super.__new__") ⟨[.type "super", .ref a, .ref a], []⟩) S51 ht51 rfl (fun h52 tk52 S52 ht52 => ?_) (by kernel_rfl) (by kernel_rfl)
  refine go_again X4 999 [] _ _ (c' := .builtin "super.__new__" ⟨[.type "super", .ref a, .ref a], []⟩) S52 ht52 rfl (by kernel_rfl) (fun h53 tk53 S53 ht53 => ?_) (by kernel_rfl) (by kernel_rfl)
  refine go_e (b := PySem.Builtin.«super.__new__») (entryFor_of_tree (by kernel_rfl)) ?_
  refine leaf X4 199 [] _ _ (.done (.ret (.ref y.N))) S53 ht53 rfl (fun h54 tk54 S54 ht54 => ?_) (by kernel_rfl) (by kernel_rfl)
  refine go_call X4 999 [.o 1, .o 1] _ _ (.call (.builtin "super.__init__") ⟨[.ref y.N, .ref a, .ref a], []⟩) S54 ht54 rfl (fun h55 tk55 S55 ht55 => ?_) (by kernel_rfl) (by kernel_rfl)
  refine go_again X4 999 [.o 1] _ _ (c' := .builtin "super.__init__" ⟨[.ref y.N, .ref a, .ref a], []⟩) S55 ht55 rfl (by kernel_rfl) (fun h56 tk56 S56 ht56 => ?_) (by kernel_rfl) (by kernel_rfl)
  refine go_e (b := PySem.Builtin.«super.__init__») (entryFor_of_tree (by kernel_rfl)) ?_
  unfold PySem.Builtin.«super.__init__»
  refine wpAny_bind (wpAny_of_eq (a := ()) (by kernel_rfl) ?_)
  refine wpAny_bind (wpAny_pure ?_)
  refine leafb X4 199 [.o 0] _ _ true S56 ht56 rfl (fun h57 tk57 S57 ht57 => ?_) (by kernel_rfl) (by kernel_rfl)
  refine wpAny_ite_false (by kernel_rfl) ?_
  refine wpAny_ite_false (by kernel_rfl) (wpAny_bind ?_)
  refine leafb X4 199 [.o 0] _ _ true S57 ht57 rfl (fun h58 tk58 S58 ht58 => ?_) (by kernel_rfl) (by kernel_rfl)
  refine wpAny_ite_true (by kernel_rfl) (wpAny_bind ?_)
  show wpAny _ _ (isSubtype (.ref a) (.ref a)) _ _ _
  unfold isSubtype
  refine leafb X4 199 [.o 0] _ _ [.ref a, .type "object"] S58 ht58 rfl (fun h59 tk59 S59 ht59 => ?_) (by kernel_rfl) (by kernel_rfl)
  refine wpAny_ite_false (by kernel_rfl) (wpAny_pure ?_)
  refine wpAny_ite_true (by simp) (wpAny_pure ?_)
  refine leaf X4 199 [.o 1, .o 1, .o 1, .o 1, .o 1, .o 1] _ _ (.done (.ret .none)) S59 ht59 rfl (fun h60 tk60 S60 ht60 => ?_) (by kernel_rfl) (by kernel_rfl)
  refine leaf X4 199 [] _ _ (.done (.ret (.ref y.N))) S60 ht60 rfl (fun h61 tk61 S61 ht61 => ?_) (by kernel_rfl) (by kernel_rfl)
  exact hR h61 tk61 (S61.cast (by kernel_rfl) (by kernel_rfl))
end
-- Sup2
section
theorem dw2 (a : Addr) : (List.dropWhile (fun x => x != Value.ref a) [Value.ref a, Value.type "object"]) = [Value.ref a, Value.type "object"] := by simp
noncomputable def w0 (y : KP) (cd : ClassData) (od : Option Addr) (sl : Array (Option Value)) (a b : Addr) : FS := ⟨[(a, kObj cd od sl a), (b, supObj a)], 0, y.tk, []⟩
abbrev bfObj (a : Addr) : Obj := { cls := .type "builtin_function_or_method", data := .fields #[.builtin "object.__init_subclass__", .ref a] }
theorem sup2 {y : KP} {cd : ClassData} {od : Option Addr} {sl : Array (Option Value)} {a b : Addr} {t : Tok} {A : Around} {R : Result → Shared → Prop} {s : Shared} {hs g : Heap} (X4 : (K4 y.w.params y.sl).In g) (S0 : Sat y.N hs g 0 [(a, kObj cd od sl a), (b, supObj a)] s.heap) (ht0 : s.toks = y.tk)
    (hR : ∀ h' tk', Sat y.N hs g 1 [(a, kObj cd od sl a), (b, supObj a), (y.N, bfObj a)] h' → R (.ok (.ret (.ref y.N))) { s with heap := h', toks := tk' }) :
    codeAny (model PySem.Challenge.rw_il0164_01.row.prog y.w) A (.call (.builtin "super.__getattribute__") ⟨[.ref b, .str "__init_subclass__" t], []⟩) R s := by
  refine go_again X4 999 [.o 1] (w0 y cd od sl a b) _ (c' := .builtin "super.__getattribute__" ⟨[.ref b, .str "__init_subclass__" t], []⟩) S0 ht0 rfl (by kernel_rfl) (fun h1 tk1 S1 ht1 => ?_) (by kernel_rfl) (by kernel_rfl)
  refine go_e (b := PySem.Builtin.«super.__getattribute__») (entryFor_of_tree (by kernel_rfl)) ?_
  unfold PySem.Builtin.«super.__getattribute__»
  refine wpAny_bind (wpAny_of_eq (a := some (Str.ofString "__init_subclass__")) (by kernel_rfl) ?_)
  refine wpAny_ite_false (by kernel_rfl) ?_
  refine wpAny_bind (wpAny_of_eq (a := some (Str.ofString "__init_subclass__")) (by kernel_rfl) ?_)
  refine leafb X4 199 [.o 1] _ _ (.ref a) S1 ht1 rfl (fun h2 tk2 S2 ht2 => ?_) (by kernel_rfl) (by kernel_rfl)
  refine leafb X4 199 [.o 1] _ _ (.ref a) S2 ht2 rfl (fun h3 tk3 S3 ht3 => ?_) (by kernel_rfl) (by kernel_rfl)
  refine leafb X4 199 [.o 1] _ _ (.ref a) S3 ht3 rfl (fun h4 tk4 S4 ht4 => ?_) (by kernel_rfl) (by kernel_rfl)
  refine wpAny_ite_false (by kernel_rfl) ?_
  refine leafb X4 199 [.k 2] _ _ () S4 ht4 rfl (fun h5 tk5 S5 ht5 => ?_) (by kernel_rfl) (by kernel_rfl)
  refine wpAny_ite_false (by kernel_rfl) ?_
  refine leafb X4 199 [.o 0] _ _ [.ref a, .type "object"] S5 ht5 rfl (fun h6 tk6 S6 ht6 => ?_) (by kernel_rfl) (by kernel_rfl)
  refine wpAny_cast (by rw [dw_own]) ?_
  refine go_call X4 999 [] _ _ (.call (.builtin "classmethod_descriptor.__get__") ⟨[.builtin "object.__init_subclass__", (if (Value.ref a == Value.ref a) = true then .none else .ref a), .ref a], []⟩) S6 ht6 rfl (fun h7 tk7 S7 ht7 => ?_) (by kernel_rfl) (by kernel_rfl)
  refine codeAny_cast (c' := .call (.builtin "classmethod_descriptor.__get__") ⟨[.builtin "object.__init_subclass__", .none, .ref a], []⟩) (by simp) ?_
  refine go_b (b := PySem.Builtin.«classmethod_descriptor.__get__») (entryFor_of_tree (by kernel_rfl)) (by kernel_rfl) (by kernel_rfl) ?_
  refine leaf X4 99 [.o 0, .o 0] _ _ (.done (.ret (.ref y.N))) S7 ht7 rfl (fun h8 tk8 S8 ht8 => ?_) (by kernel_rfl) (by kernel_rfl)
  refine leaf X4 99 [] _ _ (.done (.ret (.ref y.N))) S8 ht8 rfl (fun h9 tk9 S9 ht9 => ?_) (by kernel_rfl) (by kernel_rfl)
  exact hR h9 tk9 (S9.cast (by kernel_rfl) (by kernel_rfl))
end
-- Sup3
section
noncomputable def v0 (y : KP) (cd : ClassData) (od : Option Addr) (sl : Array (Option Value)) (a b : Addr) : FS := ⟨[(a, kObj cd od sl a), (b, bfObj a)], 0, y.tk, []⟩
theorem sup3 {y : KP} {cd : ClassData} {od : Option Addr} {sl : Array (Option Value)} {a b : Addr} {A : Around} {R : Result → Shared → Prop} {s : Shared} {hs g : Heap} (X4 : (K4 y.w.params y.sl).In g) (S0 : Sat y.N hs g 0 [(a, kObj cd od sl a), (b, bfObj a)] s.heap) (ht0 : s.toks = y.tk)
    (hR : ∀ h' tk', Sat y.N hs g 0 [(a, kObj cd od sl a), (b, bfObj a)] h' → R (.ok (.ret .none)) { s with heap := h', toks := tk' }) :
    codeAny (model PySem.Challenge.rw_il0164_01.row.prog y.w) A (.call (.ref b) ⟨[], []⟩) R s := by
  refine go_again X4 999 [.o 1, .o 0, .o 0, .o 0, .o 0] (v0 y cd od sl a b) _ (c' := .builtin "object.__init_subclass__" ⟨[.ref a], []⟩) S0 ht0 rfl (by kernel_rfl) (fun h1 tk1 S1 ht1 => ?_) (by kernel_rfl) (by kernel_rfl)
  refine go_e (b := PySem.Builtin.«object.__init_subclass__») (entryFor_of_tree (by kernel_rfl)) ?_
  refine leaf X4 99 [] _ _ (.done (.ret .none)) S1 ht1 rfl (fun h2 tk2 S2 ht2 => ?_) (by kernel_rfl) (by kernel_rfl)
  exact hR h2 tk2 (S2.cast (by kernel_rfl) (by kernel_rfl))
end
-- Join
section
theorem Sat.sub {N : Nat} {hs h₀ h : Heap} {c : Nat} {own own' : List (Addr × Obj)} (X : Sat N hs h₀ c own h) (hsub : ∀ p ∈ own', p ∈ own) (nd : (own'.map (·.1)).Nodup) : Sat (N + c) h h₀ 0 own' h where
  size := X.size
  mine := fun p hp => X.mine p (hsub p hp)
  nd := nd
  fresh := fun p hp => X.fresh p (hsub p hp)
  keep := fun _ _ _ e => e
  old := X.old
theorem Sat.join {N : Nat} {hs h₀ h h2 : Heap} {c c2 : Nat} {own own2 own3 : List (Addr × Obj)} (X : Sat N hs h₀ c own h) (Y : Sat (N + c) h h₀ c2 own2 h2) (hm : ∀ p ∈ own3, p ∈ own2 ∨ (p ∈ own ∧ p.1 ∉ own2.map (·.1))) (nd : (own3.map (·.1)).Nodup)
    (hall : ∀ b, b ∉ own3.map (·.1) → b ∉ own.map (·.1) ∧ b ∉ own2.map (·.1)) : Sat N hs h₀ (c + c2) own3 h2 where
  size := by rw [Y.size, Nat.add_assoc]
  mine := fun p hp => (hm p hp).elim (Y.mine p) fun q => Y.keep _ _ q.2 (X.mine p q.1)
  nd := nd
  fresh := fun p hp => (hm p hp).elim (Y.fresh p) fun q => X.fresh p q.1
  keep := fun b o hb e => Y.keep b o (hall b hb).2 (X.keep b o (hall b hb).1 e)
  old := Y.old
theorem own_uniq {own : List (Addr × Obj)} (nd : (own.map (·.1)).Nodup) {p q : Addr × Obj} (hp : p ∈ own) (hq : q ∈ own) (e : p.1 = q.1) : p = q := by
  obtain ⟨i, hi⟩ := List.getElem?_of_mem hp
  obtain ⟨j, hj⟩ := List.getElem?_of_mem hq
  have h1 : (own.map (·.1))[i]? = some p.1 := by rw [List.getElem?_map, hi]; rfl
  have h2 : (own.map (·.1))[j]? = some p.1 := by rw [List.getElem?_map, hj, e]; rfl
  have hl : i < (own.map (·.1)).length := (List.getElem?_eq_some_iff.mp h1).1
  have hij : i = j := (List.getElem?_inj hl nd).mp (h1.trans h2.symm)
  subst hij
  rw [hi] at hj
  exact Option.some.inj hj
theorem Sat.add {N : Nat} {hs h₀ h h2 : Heap} {c c2 : Nat} {own sub new : List (Addr × Obj)} (X : Sat N hs h₀ c own h) (hsub : ∀ p ∈ sub, p ∈ own) (Y : Sat (N + c) h h₀ c2 (sub ++ new) h2) (hge : ∀ p ∈ new, @LE.le Nat _ (N + c) p.1) : Sat N hs h₀ (c + c2) (own ++ new) h2 := by
  have lt : ∀ p ∈ own, @LT.lt Nat _ p.1 (N + c) := fun p hp => by have := Heap.lt_size (X.mine p hp); rw [X.size] at this; exact this
  have nnew : (new.map (·.1)).Nodup := by
    have := Y.nd
    rw [List.map_append, List.nodup_append] at this
    exact this.2.1
  have old2 : ∀ p ∈ own, h2.get? p.1 = some p.2 := fun p hp => by
    by_cases hm : p.1 ∈ (sub ++ new).map (·.1)
    · obtain ⟨q, hq, e⟩ := List.mem_map.mp hm
      rcases List.mem_append.mp hq with hs | hn
      · have := own_uniq X.nd hp (hsub q hs) e.symm
        subst this
        exact Y.mine _ hq
      · exact absurd (lt p hp) (Nat.not_lt.mpr (by rw [← e]; exact hge q hn))
    · exact Y.keep _ _ hm (X.mine p hp)
  refine ⟨by rw [Y.size, Nat.add_assoc], fun p hp => ?_, ?_, fun p hp => ?_, fun b o hb e => ?_, Y.old⟩
  · exact (List.mem_append.mp hp).elim (old2 p) fun q => Y.mine p (List.mem_append_right _ q)
  · rw [List.map_append, List.nodup_append]
    refine ⟨X.nd, nnew, fun a ha b hb e => ?_⟩
    obtain ⟨p, hp, rfl⟩ := List.mem_map.mp ha
    obtain ⟨q, hq, rfl⟩ := List.mem_map.mp hb
    exact absurd (lt p hp) (Nat.not_lt.mpr (by rw [e]; exact hge q hq))
  · exact (List.mem_append.mp hp).elim (X.fresh p) fun q => Y.fresh p (List.mem_append_right _ q)
  · rw [List.map_append] at hb
    refine Y.keep b o (fun hm => ?_) (X.keep b o (fun q => hb (List.mem_append_left _ q)) e)
    rw [List.map_append] at hm
    rcases List.mem_append.mp hm with q | q
    · obtain ⟨r, hr, rfl⟩ := List.mem_map.mp q
      exact hb (List.mem_append_left _ (List.mem_map_of_mem (hsub r hr)))
    · exact hb (List.mem_append_right _ q)
end
-- Henc
section
def qword (l : List Nat) : List Nat := [61, 63, 120, 63, 113, 63] ++ qrow l ++ [63, 61]
theorem qword_is {X x : Str} {l : List Nat} (e : X = Str.empty ++ Str.ofString "=?" ++ Str.ofString "x" ++ Str.ofString "?q?" ++ x ++ Str.ofString "?=") (h : x.cps.toList = qrow l) : X.cps.toList = qword l := by
  subst e
  have e1 : (Str.ofString "=?").cps = #[61, 63] := by decide +kernel
  have e2 : (Str.ofString "x").cps = #[120] := by decide +kernel
  have e3 : (Str.ofString "?q?").cps = #[63, 113, 63] := by decide +kernel
  have e4 : (Str.ofString "?=").cps = #[63, 61] := by decide +kernel
  have e5 : Str.empty.cps = #[] := by decide +kernel
  simp only [Str.cps_append, Array.toList_append, h, e1, e2, e3, e4, e5, qword]
  simp
theorem henc {w : World} (b : Array UInt8) (tb tx : Tok) (hb : 0 < b.size) (hs : b.size ≤ 300000) : CallsTo w 104 [.bytes b tb, .str (Str.ofString "x") tx] [] 4 40 (RetsStr (fun x => x.cps.toList = qword (b.toList.map (·.toNat)))) := by
  unfold CallsTo RetsStr
  k_fill
  intros; rename_i hret
  refine wpAny_call ?_
  refine' code_def ?k1h1 ?k2h1 ?k3h1 ?k4h1 ?k5h1 ?kAh1 ?kFh1 ?kKh1 ?k6h1 ?k7h1 ?k8h1 ?k9h1 ?kBh1 ?_ ?c2h1 ?c3h1 ?c4h1 ?c5h1; (case kAh1 | kFh1 => exact rfl); (case kKh1 => first | assumption | exact rfl); (case k1h1 | k2h1 | k3h1 | k4h1 | k5h1 => k_asm); (case k6h1 | k7h1 => k_is); (case k8h1 => ktr_room); (case k9h1 => first | exact BindsTo.of_eq rfl | exact binds_K (by k_in) rfl (by k_is) rfl rfl rfl); (case c2h1 | c3h1 | c4h1 => exact rfl); (case c5h1 => decide); (case kBh1 => exact locs rfl); k_whole; intro iG iL iH iFG iF iN iB iX iT; (try dsimp only); (try k_lift iB); (try k_fold)
  repeat' (first | ((with_reducible show wpAny _ _ (truthy (Value.bytes _ _)) _ _ _); refine truthy_bytes_pos (by assumption) (by omega) ?_) | ((with_reducible show wpAny _ _ (call (Value.builtin "bytes.decode") [Value.bytes _ _, Value.str _ _]) _ _ _); refine decode_latin1 (by assumption) (by omega) ?_; intro _ _) | (with_reducible refine method_translate ?_) | ((with_reducible show wpAny _ _ (call (Value.builtin "str.translate") [Value.str _ _, Value.ref _]) _ _ _); refine translate_q (by k_asm) (by k_asm) (by assumption) (by assumption) ?_; intro ix it ik iX1 iX2) | walk_at "ONE")
  refine hret _ _ _ _ (qword_is rfl (by assumption)) ?hF ?hN
  case hF => k_asm
  case hN => k_asm
end
-- B2a
section
theorem whl_dec {p : Prop} [Decidable p] {T F : Prop} (t : p → T) (f : ¬ p → F) : WhlIf (decide p) T F := by
  by_cases h : p
  · exact WhlIf.yes (decide_eq_true h) (t h)
  · exact WhlIf.no (decide_eq_false h) (f h)
theorem b64_eA {pre : List Int} {n lb lc v : Int} {zs : List Int} (hB : lb = 0 ∨ lb = 2 ∨ lb = 4) (hg : ¬ 6 ≤ lb + 8 - 6) (h : (lb, lc, zs) = b64fold pre) (hv : v = (Builtin.bitAnd (Builtin.bitOr (lc * 2 ^ Int.toNat 8) n) 65535).fdiv (2 ^ (lb + 8 - 6 : Int).toNat) % 64) :
    (lb + 8 - 6, Builtin.bitAnd (Builtin.bitOr (lc * 2 ^ Int.toNat 8) n) 65535, zs ++ [b64at v]) = b64fold (pre ++ [n]) := by
  rcases hB with rfl | rfl | rfl
  · exact b64_e0 h hv
  · exact b64_e2 h hv
  · exact absurd (by decide) hg
theorem b64_eB {pre : List Int} {n lb lc v v' : Int} {zs : List Int} (hB : lb = 0 ∨ lb = 2 ∨ lb = 4) (hg : 6 ≤ lb + 8 - 6) (h : (lb, lc, zs) = b64fold pre) (hv : v = (Builtin.bitAnd (Builtin.bitOr (lc * 2 ^ Int.toNat 8) n) 65535).fdiv (2 ^ (lb + 8 - 6 : Int).toNat) % 64)
    (hv' : v' = (Builtin.bitAnd (Builtin.bitOr (lc * 2 ^ Int.toNat 8) n) 65535).fdiv (2 ^ (lb + 8 - 6 - 6 : Int).toNat) % 64) :
    (lb + 8 - 6 - 6, Builtin.bitAnd (Builtin.bitOr (lc * 2 ^ Int.toNat 8) n) 65535, zs ++ [b64at v] ++ [b64at v']) = b64fold (pre ++ [n]) := by
  rcases hB with rfl | rfl | rfl
  · exact absurd hg (by decide)
  · exact absurd hg (by decide)
  · exact b64_e4 h hv hv'
theorem b2a {w : World} (b : Array UInt8) (tb : Tok) (hs : b.size ≤ 300000) : CallsTo w 60 [.bytes b tb] [(Str.ofString "newline", .bool false)] 6 60 (RetsBytes (fun x => x = byteArr (b64out (KBw.bInts b)))) := by
  unfold CallsTo RetsBytes
  k_fill
  intros; rename_i hret
  refine wpAny_call ?_
  refine' code_def ?k1h6 ?k2h6 ?k3h6 ?k4h6 ?k5h6 ?kAh6 ?kFh6 ?kKh6 ?k6h6 ?k7h6 ?k8h6 ?k9h6 ?kBh6 ?_ ?c2h6 ?c3h6 ?c4h6 ?c5h6; (case kAh6 | kFh6 => exact rfl); (case kKh6 => first | assumption | exact rfl); (case k1h6 | k2h6 | k3h6 | k4h6 | k5h6 => k_asm); (case k6h6 | k7h6 => k_is); (case k8h6 => ktr_room); (case k9h6 => first | exact BindsTo.of_eq rfl | exact binds_K (by k_in) rfl (by k_is) rfl rfl rfl); (case c2h6 | c3h6 | c4h6 => exact rfl); (case c5h6 => decide); (case kBh6 => exact locs rfl); k_whole; intro iG iL iH iFG iF iN iB iX iT; (try dsimp only); (try k_lift iB); (try k_fold)
  repeat' (first | ((with_reducible show wpAny _ _ (call _ _ _) _ _ _); first | ((with_reducible show wpAny _ _ (call (Value.type "bytes") [Value.ref _]) _ _ _); refine call_bytes_b64 (by exact rfl) (by k_asm) (by k_asm) (by first | assumption | exact ints_push (ints_push (by assumption)) | exact ints_push (ints_push (ints_push (by assumption)))) (by first | exact b64_o0 (by assumption) | exact b64_o2 (by assumption) (by assumption) (by assumption) | exact b64_o4 (by assumption) (by assumption) (by assumption)) (by (try simp only [List.length_append, List.length_cons, List.length_nil]); omega) ?_; intro ih it ik iF iN) | ((with_reducible show wpAny _ _ (call (Value.type "type") [Value.bytes _ _]) _ _ _); refine PySem.call_type_of (typeIs_bytes _ _ _) (by decide +kernel) ?_) | ((with_reducible show wpAny _ _ (call (Value.ref _) _ _) _ _ _); refine wpAny_call ?_; refine' code_def ?k1h113 ?k2h113 ?k3h113 ?k4h113 ?k5h113 ?kAh113 ?kFh113 ?kKh113 ?k6h113 ?k7h113 ?k8h113 ?k9h113 ?kBh113 ?_ ?c2h113 ?c3h113 ?c4h113 ?c5h113; (case kAh113 | kFh113 => exact rfl); (case kKh113 => first | assumption | exact rfl); (case k1h113 | k2h113 | k3h113 | k4h113 | k5h113 => k_asm); (case k6h113 | k7h113 => k_is); (case k8h113 => ktr_room); (case k9h113 => first | exact BindsTo.of_eq rfl | exact binds_K (by k_in) rfl (by k_is) rfl rfl rfl); (case c2h113 | c3h113 | c4h113 => exact rfl); (case c5h113 => decide); (case kBh113 => exact locs rfl); k_whole; intro iG iL iH iFG iF iN iB iX iT; (try dsimp only); (try k_lift iB); (try k_fold)) | fail) | ((with_reducible show wpAny _ _ (binaryOp _ (Value.int _ _) (Value.int _ _)) _ _ _); first | ((with_reducible show wpAny _ _ (binaryOp _ (Value.int _ _) (Value.int 3 _)) _ _ _); refine and3 ?_; intro iv iv1 iv2 iv3) | ((with_reducible show wpAny _ _ (binaryOp _ (Value.int _ _) (Value.int 15 _)) _ _ _); refine and15 ?_; intro iv iv1 iv2 iv3) | ((with_reducible show wpAny _ _ (binaryOp _ (Value.int _ _) (Value.int 63 _)) _ _ _); refine and63 ?_; intro iv iv1 iv2 iv3) | ((with_reducible show wpAny _ _ (binaryOp _ (Value.int _ _) (Value.int 4 _)) _ _ _); refine shl4 (by omega) (by omega) ?_; intro iv iv1) | ((with_reducible show wpAny _ _ (binaryOp _ (Value.int _ _) (Value.int 2 _)) _ _ _); refine shl2 (by omega) (by omega) ?_; intro iv iv1) | fail) | ((with_reducible show wpAny _ _ (exec (PySem.Stmt.For ..) _) _ _ _); (rename Fr _ _ _ _ => lF); with_unfolding_all refine For_invVF lF (by exact rfl) (by exact rfl) ?_; k_whole) | ((with_reducible show wpAny _ _ (pyIter (Value.bytes _ _)) _ _ _); (refine b64_loop (f := b64fold) (by exact rfl) (by k_asm) (by k_asm) (by k_asm) (by exact rfl) (by exact rfl) rfl ?_ ?_); (rotate_left); (intro lb lc t1 t2 out ep zs u kH kTk kNe kInts kE kZl kFr kNews); (have kOl := IntsAre.length kInts); (rw [Array.length_toList] at kOl); (have kB := b64_lb2 kE); (obtain ⟨kB, kC0, kC1⟩ := kB); ((rcases kB with kB | kB | kB) <;> subst kB); (rotate_right); (intro lb lc t1 t2 out ep zs kPre kN kT kH kTk kOwn kLen kLo kHi kOff kInts kE kZl kNe kFr kNews); (refine wpAny_abs ?_); (intro _ kTo); (have kOl := IntsAre.length kInts); (rw [Array.length_toList] at kOl); (have kB := b64_lb2 kE); (obtain ⟨kB, kC0, kC1⟩ := kB); (all_goals (try k_fold))) | ((with_reducible show InvEndN _ _ _ _ _ _ _); refine b64_end _ _ _ _ _ _ _ (by k_asm) (by k_asm) (by exact rfl) (by exact rfl) (by intro z h1 h2 h3; simp only [if_neg h1, if_neg h2, if_neg h3]) (by first | exact ints_push (by assumption) | exact ints_push (ints_push (by assumption))) (by first | exact b64_eA (by assumption) (by assumption) (by assumption) (by assumption) | exact b64_eB (by assumption) (by assumption) (by assumption) (by assumption) (by assumption)) (by simp only [List.length_append, List.length_cons, List.length_nil]; omega)) | ((with_reducible show wpAny _ _ (subscriptTail _ _ (Value.bytes _ _) (Value.int _ _)) _ _ _); refine item_b64 (by omega) (by omega) ?_) | walk_at "ONE" | (refine WhlIf.yes (decide_eq_true (by omega)) ?_) | (refine WhlIf.no (decide_eq_false (by omega)) ?_) | (refine whl_dec (fun hg => ?_) (fun hg => ?_)) | (refine Toward.use (by with_reducible assumption) ?_; try dsimp only))
  all_goals (refine hret _ _ _ _ rfl ?_ ?_)
  all_goals first | k_asm | exact KStb.news_of (by assumption) (fun p hp => .tail _ hp)
end
-- B64e
section
theorem b64e {w : World} (b : Array UInt8) (tb : Tok) (hs : b.size ≤ 300000) : CallsTo w 68 [.bytes b tb] [] 8 80 (RetsBytes (fun x => x = byteArr (b64out (KBw.bInts b)))) := by
  unfold CallsTo RetsBytes
  k_fill
  intros; rename_i hret
  refine wpAny_call ?_
  refine' code_def ?k1h13 ?k2h13 ?k3h13 ?k4h13 ?k5h13 ?kAh13 ?kFh13 ?kKh13 ?k6h13 ?k7h13 ?k8h13 ?k9h13 ?kBh13 ?_ ?c2h13 ?c3h13 ?c4h13 ?c5h13; (case kAh13 | kFh13 => exact rfl); (case kKh13 => first | assumption | exact rfl); (case k1h13 | k2h13 | k3h13 | k4h13 | k5h13 => k_asm); (case k6h13 | k7h13 => k_is); (case k8h13 => ktr_room); (case k9h13 => first | exact BindsTo.of_eq rfl | exact binds_K (by k_in) rfl (by k_is) rfl rfl rfl); (case c2h13 | c3h13 | c4h13 => exact rfl); (case c5h13 => decide); (case kBh13 => exact locs rfl); k_whole; intro iG iL iH iFG iF iN iB iX iT; (try dsimp only); (try k_lift iB); (try k_fold)
  repeat' (first | ((with_reducible show wpAny _ _ (call (Value.ref 60) _ _) _ _ _); refine use_call (b2a _ _ (by omega)) (by k_asm) (by k_asm) (by k_asm) (by k_asm) (by k_asm) (by first | exact rfl | assumption) (by ktr_room) (by ktr_units) ?_; intro ix it ih itk iP iF iN; (subst iP); (try dsimp only); (try k_fold)) | walk_at "ONE")
  all_goals (refine hret _ _ _ _ rfl ?_ ?_)
  all_goals k_asm
end
-- Cmp
section
def cmpInt (x y : Str) : Int := if (x.length : Int) ≠ y.length then (x.length : Int) - y.length else b2i (decide (y.cps.toList < x.cps.toList)) - b2i (decide (x.cps.toList < y.cps.toList))
theorem lawcmp {w : World} (x y : Str) (tx ty : Tok) (hx : x.length ≤ 1000000) (hy : y.length ≤ 1000000) : CallsTo w 146 [.str x tx, .str y ty] [] 4 40 (RetsInt (fun v => v = cmpInt x y)) := by
  unfold CallsTo RetsInt
  k_fill
  intros; rename_i hret
  refine wpAny_call ?_
  refine' code_def ?k1h15 ?k2h15 ?k3h15 ?k4h15 ?k5h15 ?kAh15 ?kFh15 ?kKh15 ?k6h15 ?k7h15 ?k8h15 ?k9h15 ?kBh15 ?_ ?c2h15 ?c3h15 ?c4h15 ?c5h15; (case kAh15 | kFh15 => exact rfl); (case kKh15 => first | assumption | exact rfl); (case k1h15 | k2h15 | k3h15 | k4h15 | k5h15 => k_asm); (case k6h15 | k7h15 => k_is); (case k8h15 => ktr_room); (case k9h15 => first | exact BindsTo.of_eq rfl | exact binds_K (by k_in) rfl (by k_is) rfl rfl rfl); (case c2h15 | c3h15 | c4h15 => exact rfl); (case c5h15 => decide); (case kBh15 => exact locs rfl); k_whole; intro iG iL iH iFG iF iN iB iX iT; (try dsimp only); (try k_lift iB); (try k_fold)
  k_steps
  all_goals (refine hret _ _ _ _ ?_ (by k_asm) (by k_asm))
  all_goals (unfold cmpInt; first | exact (if_pos (by assumption)).symm | exact (if_neg (fun h => h (by assumption))).symm)
end
-- Newk
section
theorem Sat.redo {N : Nat} {hs h₀ h : Heap} {st : FS} {tk : Nat} (X : Sat N hs h₀ st.c st.own h) (ht : tk = st.tk) (c' : Nat) (own' : List (Addr × Obj)) (tk' : Nat) (e1 : st.own = own') (e2 : st.c = c') (e3 : st.tk = tk') : Sat N hs h₀ c' own' h ∧ tk = tk' := by
  subst e1 e2 e3; exact ⟨X, ht⟩
structure NK where
  y : KP
  bt : Addr
  na : Addr
  ol : Addr
  sa : Addr
  f0 : Addr
  f1 : Addr
  f2 : Addr
  f3 : Addr
  f4 : Addr
  f5 : Addr
  fd : Nat → FuncData
  h : Nat → Int
  t : Nat → Tok
  ln : Int
noncomputable abbrev nQual (q : NK) : Value := .str (Str.ofString "cmp_to_key.<locals>.K") (q.t 12)
noncomputable abbrev nkEnts (q : NK) : Array DictEntry := #[⟨q.h 0, .str (Str.ofString "__module__") (q.t 0), .str (Str.ofString "cpy313.functools") (q.t 13)⟩, ⟨q.h 1, .str (Str.ofString "__qualname__") (q.t 1), nQual q⟩, ⟨q.h 2, .str (Str.ofString "__firstlineno__") (q.t 2), .int q.ln (q.t 14)⟩, ⟨q.h 3, .str (Str.ofString "__slots__") (q.t 3), .ref q.ol⟩,
  ⟨q.h 4, .str (Str.ofString "__init__") (q.t 4), .ref q.f0⟩, ⟨q.h 5, .str (Str.ofString "__lt__") (q.t 5), .ref q.f1⟩, ⟨q.h 6, .str (Str.ofString "__gt__") (q.t 6), .ref q.f2⟩, ⟨q.h 7, .str (Str.ofString "__eq__") (q.t 7), .ref q.f3⟩, ⟨q.h 8, .str (Str.ofString "__le__") (q.t 8), .ref q.f4⟩, ⟨q.h 9, .str (Str.ofString "__ge__") (q.t 9), .ref q.f5⟩,
  ⟨q.h 10, .str (Str.ofString "__hash__") (q.t 10), .none⟩, ⟨q.h 11, .str (Str.ofString "__static_attributes__") (q.t 11), .ref q.sa⟩]
noncomputable abbrev nkEnts2 (q : NK) (t : Tok) (hh : Str → Int) (md : Addr) : Array DictEntry := #[⟨q.h 0, .str (Str.ofString "__module__") (q.t 0), .str (Str.ofString "cpy313.functools") (q.t 13)⟩, ⟨q.h 2, .str (Str.ofString "__firstlineno__") (q.t 2), .int q.ln (q.t 14)⟩, ⟨q.h 3, .str (Str.ofString "__slots__") (q.t 3), .ref q.ol⟩,
  ⟨q.h 4, .str (Str.ofString "__init__") (q.t 4), .ref q.f0⟩, ⟨q.h 5, .str (Str.ofString "__lt__") (q.t 5), .ref q.f1⟩, ⟨q.h 6, .str (Str.ofString "__gt__") (q.t 6), .ref q.f2⟩, ⟨q.h 7, .str (Str.ofString "__eq__") (q.t 7), .ref q.f3⟩, ⟨q.h 8, .str (Str.ofString "__le__") (q.t 8), .ref q.f4⟩, ⟨q.h 9, .str (Str.ofString "__ge__") (q.t 9), .ref q.f5⟩,
  ⟨q.h 10, .str (Str.ofString "__hash__") (q.t 10), .none⟩, ⟨q.h 11, .str (Str.ofString "__static_attributes__") (q.t 11), .ref q.sa⟩, ⟨hh (Str.ofString "obj"), .str (Str.ofString "obj") (t + 1), .ref md⟩, ⟨hh (Str.ofString "__doc__"), .str (Str.ofString "__doc__") (t + 2), .none⟩]
noncomputable abbrev nkFn (q : NK) (i : Nat) : Obj := ⟨.type "function", none, .func (q.fd i), #[]⟩
noncomputable abbrev nk0 (q : NK) : List (Addr × Obj) := [(q.bt, ⟨.type "tuple", none, .seq #[.type "object"] 0, #[]⟩), (q.na, ⟨.type "dict", none, .dict (nkEnts q) 12, #[]⟩), (q.ol, ⟨.type "list", none, .seq #[.str (Str.ofString "obj") (q.t 15)] 0, #[]⟩),
  (q.f0, nkFn q 0), (q.f1, nkFn q 1), (q.f2, nkFn q 2), (q.f3, nkFn q 3), (q.f4, nkFn q 4), (q.f5, nkFn q 5), (q.sa, ⟨.type "tuple", none, .seq #[.str (Str.ofString "obj") (q.t 16)] 0, #[]⟩)]
noncomputable abbrev nst (own : List (Addr × Obj)) (c tk : Nat) : FS := ⟨own, c, tk, []⟩
noncomputable abbrev oCol (q : NK) : Addr × Obj := (q.y.N, ⟨.type "list", none, .seq #[.str (Str.ofString "obj") (q.t 15)] 1, #[]⟩)
noncomputable abbrev oNs0 (q : NK) : Addr × Obj := (q.y.N + 1, ⟨.type "dict", none, .dict (nkEnts q) 0, #[]⟩)
abbrev aKN (q : NK) (u : Tok) : Args := ⟨[.type "type", .str (Str.ofString "K") u, .ref q.bt, .ref q.na], []⟩
noncomputable abbrev nkCd (q : NK) (mro : List Value) (sn : List Str) : ClassData := { name := Str.ofString "K", bases := [.type "object"], mro := mro, ns := q.y.N + 1, qualname := Str.ofString "cmp_to_key.<locals>.K", slotNames := sn }
noncomputable abbrev nkEnts1 (q : NK) : Array DictEntry := #[⟨q.h 0, .str (Str.ofString "__module__") (q.t 0), .str (Str.ofString "cpy313.functools") (q.t 13)⟩, ⟨q.h 2, .str (Str.ofString "__firstlineno__") (q.t 2), .int q.ln (q.t 14)⟩, ⟨q.h 3, .str (Str.ofString "__slots__") (q.t 3), .ref q.ol⟩,
  ⟨q.h 4, .str (Str.ofString "__init__") (q.t 4), .ref q.f0⟩, ⟨q.h 5, .str (Str.ofString "__lt__") (q.t 5), .ref q.f1⟩, ⟨q.h 6, .str (Str.ofString "__gt__") (q.t 6), .ref q.f2⟩, ⟨q.h 7, .str (Str.ofString "__eq__") (q.t 7), .ref q.f3⟩, ⟨q.h 8, .str (Str.ofString "__le__") (q.t 8), .ref q.f4⟩, ⟨q.h 9, .str (Str.ofString "__ge__") (q.t 9), .ref q.f5⟩,
  ⟨q.h 10, .str (Str.ofString "__hash__") (q.t 10), .none⟩, ⟨q.h 11, .str (Str.ofString "__static_attributes__") (q.t 11), .ref q.sa⟩]
noncomputable abbrev oNs1 (q : NK) : Addr × Obj := (q.y.N + 1, ⟨.type "dict", none, .dict (nkEnts1 q) 1, #[]⟩)
noncomputable abbrev oCls0 (q : NK) : Addr × Obj := (q.y.N + 2, ⟨.type "type", none, .cls (nkCd q [] []), #[]⟩)
noncomputable abbrev clsSl1 (q : NK) (u : Tok) : Array (Option Value) := #[some (.ref q.bt), none, some (.str (Str.ofString "K") u), some (nQual q)]
noncomputable abbrev clsSl2 (q : NK) (u : Tok) : Array (Option Value) := #[some (.ref q.bt), none, some (.str (Str.ofString "K") u), some (nQual q), some (.builtin "object.__new__"), some (.bool false)]
noncomputable abbrev oCls1 (q : NK) (u : Tok) : Addr × Obj := (q.y.N + 2, ⟨.type "type", none, .cls (nkCd q [] []), clsSl1 q u⟩)
noncomputable def pHash (w : World) (x : Str) : Int := if x.cps.isEmpty then 0 else reduceHash (w.params.strHash x.cps)
noncomputable abbrev oNs2 (q : NK) : Addr × Obj := (q.y.N + 1, ⟨.type "dict", none, .dict (nkEnts2 q q.y.tk (pHash q.y.w) (q.y.N + 3)) 3, #[]⟩)
noncomputable abbrev kCd2 (q : NK) : ClassData := { name := Str.ofString "K", bases := [.type "object"], mro := [], ns := q.y.N + 1, hasDict := false, slotNames := [Str.ofString "obj"], qualname := Str.ofString "cmp_to_key.<locals>.K" }
noncomputable abbrev oCls2 (q : NK) (u : Tok) : Addr × Obj := (q.y.N + 2, kObj (kCd2 q) none (clsSl2 q u) (q.y.N + 2))
noncomputable abbrev oMd (q : NK) : Addr × Obj := (q.y.N + 3, ⟨.type "member_descriptor", none, .fields #[.str (Str.ofString "obj") q.y.tk, .ref (q.y.N + 2), .builtin "proto.slot", .builtin "proto.slot#set", .int 0 0], #[]⟩)
noncomputable abbrev nk3 (q : NK) (u : Tok) : List (Addr × Obj) := nk0 q ++ [oCol q, oNs2 q, oCls2 q u, oMd q]
noncomputable abbrev nk4 (q : NK) (u : Tok) : List (Addr × Obj) := nk0 q ++ [oCol q, oNs2 q, oCls2 q u, oMd q, (q.y.N + 4, supObj (q.y.N + 2)), (q.y.N + 5, bfObj (q.y.N + 2))]
open PySem.Builtin in
theorem newK1 {q : NK} {u : Tok} {A : Around} {R : Result → Shared → Prop} {s : Shared} {hs g : Heap} (X4 : (K4 q.y.w.params q.y.sl).In g) (hna : q.na ≠ sysModules) (S26 : Sat q.y.N hs g 0 (nk0 q) s.heap) (ht26 : s.toks = q.y.tk)
    (hR : ∀ h' tk', Sat q.y.N hs g 6 (nk4 q u) h' → R (.ok (.ret (.ref (q.y.N + 2)))) { s with heap := h', toks := tk' }) : codeAny (model PySem.Challenge.rw_il0164_01.row.prog q.y.w) A (.call (.builtin "type.__new__") (aKN q u)) R s := by
  refine go_b (b := PySem.Builtin.«type.__new__») (entryFor_of_tree (by kernel_rfl)) (by kernel_rfl) (by kernel_rfl) ?_
  unfold PySem.Builtin.«type.__new__»
  refine wpAny_bind (wpAny_of_eq (a := some (Str.ofString "K")) (by kernel_rfl) ?_)
  refine leafb X4 99 [.o 0] (nst (nk0 q) 0 q.y.tk) _ true S26 ht26 rfl (fun h27 tk27 S27 ht27 => ?_) (by kernel_rfl) (by kernel_rfl)
  refine wpAny_ite_false (by kernel_rfl) ?_
  refine leafb X4 99 [.o 1] _ _ true S27 ht27 rfl (fun h28 tk28 S28 ht28 => ?_) (by kernel_rfl) (by kernel_rfl)
  refine wpAny_ite_false (by kernel_rfl) ?_
  refine leafb X4 99 [.o 0] _ _ (some #[.type "object"]) S28 ht28 rfl (fun h29 tk29 S29 ht29 => ?_) (by kernel_rfl) (by kernel_rfl)
  refine wpAny_ite_false (by kernel_rfl) ?_
  refine wpAny_bind (wpAny_of_eq (a := PUnit.unit) (by kernel_rfl) ?_)
  refine wpAny_bind (wpAny_of_eq (a := Value.type "type") (by kernel_rfl) ?_)
  refine wpAny_ite_false (by kernel_rfl) ?_
  refine wpAny_bind (wpAny_of_eq (a := ()) (by kernel_rfl) ?_)
  refine wpAny_bind (wpAny_of_eq (a := Value.type "object") (by kernel_rfl) ?_)
  refine wpAny_ite_false (by simpa using hna) ?_
  refine leafb X4 99 [.o 1] _ _ (nkEnts q) S29 ht29 rfl (fun h30 tk30 S30 ht30 => ?_) (by kernel_rfl) (by kernel_rfl)
  refine leafb X4 99 [.o 1] _ _ (some (.builtin "dict.__iter__")) S30 ht30 rfl (fun h31 tk31 S31 ht31 => ?_) (by kernel_rfl) (by kernel_rfl)
  refine wpAny_ite_true (by kernel_rfl) (wpAny_bind (wpAny_pure ?_))
  have r31 := S31.redo ht31 0 (nk0 q) q.y.tk (by kernel_rfl) (by kernel_rfl) (by kernel_rfl)
  replace S31 := r31.1
  replace ht31 := r31.2
  clear r31
  refine wpAny_bind (go_call X4 199 [.o 2] (nst (nk0 q) 0 q.y.tk) _ (.builtin "proto.collect" ⟨[.ref q.ol], []⟩) S31 ht31 rfl (fun h32 tk32 S32 ht32 => ?_) (by kernel_rfl) (by kernel_rfl))
  refine go_e F.entry_proto_collect (leaf X4 99 [] _ _ (.again (.builtin "list.__iadd__" ⟨[.ref q.y.N, .ref q.ol], []⟩)) S32 ht32 rfl (fun h33 tk33 S33 ht33 => ?_) (by kernel_rfl) (by kernel_rfl))
  refine ⟨by kernel_rfl, go_e F.entry_list_iadd ?_⟩
  show wpAny _ _ (Builtin.List.listExtendWith (.ref q.y.N) (.ref q.ol) (.ref q.y.N)) _ _ _
  unfold Builtin.List.listExtendWith
  refine leafb X4 99 [.o 2] _ _ (.type "list") S33 ht33 rfl (fun h34 tk34 S34 ht34 => ?_) (by kernel_rfl) (by kernel_rfl)
  refine wpAny_ite_true (by simp) ?_
  refine leaf X4 99 [.o 2, .o 10, .o 10, .o 10, .o 10] _ _ (.done (.ret (.ref q.y.N))) S34 ht34 rfl (fun h35 tk35 S35 ht35 => ?_) (by kernel_rfl) (by kernel_rfl)
  have r35 := S35.redo ht35 1 (nk0 q ++ [oCol q]) q.y.tk (by kernel_rfl) (by kernel_rfl) (by kernel_rfl)
  replace S35 := r35.1
  replace ht35 := r35.2
  clear r35
  refine leaf X4 199 [.o 10] (nst (nk0 q ++ [oCol q]) 1 q.y.tk) _ ({ names := [Str.ofString "obj"], dict := false, weak := false, inherited := [] } : Slots.Plan) S35 ht35 rfl (fun h36 tk36 S36 ht36 => ?_) (by kernel_rfl) (by kernel_rfl)
  refine leafb X4 199 [] _ _ (.ref (q.y.N + 1)) S36 ht36 rfl (fun h37 tk37 S37 ht37 => ?_) (by kernel_rfl) (by kernel_rfl)
  refine wpAny_ite_false (by kernel_rfl) ?_
  refine wpAny_bind (wpAny_of_eq (a := ()) (by kernel_rfl) ?_)
  refine wpAny_ite_false (by kernel_rfl) ?_
  have r37 := S37.redo ht37 2 (nk0 q ++ [oCol q, oNs0 q]) q.y.tk (by kernel_rfl) (by kernel_rfl) (by kernel_rfl)
  replace S37 := r37.1
  replace ht37 := r37.2
  clear r37
  refine leafb X4 199 [.o 11] (nst (nk0 q ++ [oCol q, oNs0 q]) 2 q.y.tk) _ (some (nQual q)) S37 ht37 rfl (fun h38 tk38 S38 ht38 => ?_) (by kernel_rfl) (by kernel_rfl)
  refine leafb X4 199 [.o 11] _ _ (some (nQual q)) S38 ht38 rfl (fun h39 tk39 S39 ht39 => ?_) (by kernel_rfl) (by kernel_rfl)
  refine wpAny_bind (wpAny_of_eq (a := some (Str.ofString "cmp_to_key.<locals>.K")) (by kernel_rfl) ?_)
  refine wpAny_bind (wpAny_pure ?_)
  refine leafb X4 199 [.o 11] _ _ none S39 ht39 rfl (fun h40 tk40 S40 ht40 => ?_) (by kernel_rfl) (by kernel_rfl)
  refine leafb X4 199 [] _ _ (q.y.N + 2) S40 ht40 rfl (fun h41 tk41 S41 ht41 => ?_) (by kernel_rfl) (by kernel_rfl)
  refine wpAny_ite_true (by kernel_rfl) ?_
  have r41 := S41.redo ht41 3 (nk0 q ++ [oCol q, oNs0 q, oCls0 q]) q.y.tk (by kernel_rfl) (by kernel_rfl) (by kernel_rfl)
  replace S41 := r41.1
  replace ht41 := r41.2
  clear r41
  refine leafb X4 199 [.o 12] (nst (nk0 q ++ [oCol q, oNs0 q, oCls0 q]) 3 q.y.tk) _ () S41 ht41 rfl (fun h42 tk42 S42 ht42 => ?_) (by kernel_rfl) (by kernel_rfl)
  refine leafb X4 199 [.o 12] _ _ () S42 ht42 rfl (fun h43 tk43 S43 ht43 => ?_) (by kernel_rfl) (by kernel_rfl)
  refine leafb X4 199 [.o 12] _ _ () S43 ht43 rfl (fun h44 tk44 S44 ht44 => ?_) (by kernel_rfl) (by kernel_rfl)
  refine leafb X4 199 [.o 11, .o 11] _ _ true S44 ht44 rfl (fun h45 tk45 S45 ht45 => ?_) (by kernel_rfl) (by kernel_rfl)
  have r45 := S45.redo ht45 3 (nk0 q ++ [oCol q, oNs1 q, oCls1 q u]) q.y.tk (by kernel_rfl) (by kernel_rfl) (by kernel_rfl)
  replace S45 := r45.1
  replace ht45 := r45.2
  clear r45
  refine leafb X4 199 [.o 11] (nst (nk0 q ++ [oCol q, oNs1 q, oCls1 q u]) 3 q.y.tk) _ none S45 ht45 rfl (fun h46 tk46 S46 ht46 => ?_) (by kernel_rfl) (by kernel_rfl)
  refine leafb X4 199 [.o 11, .o 11] _ _ PUnit.unit S46 ht46 rfl (fun h47 tk47 S47 ht47 => ?_) (by kernel_rfl) (by kernel_rfl)
  refine leafb X4 199 [.o 11] _ _ none S47 ht47 rfl (fun h48 tk48 S48 ht48 => ?_) (by kernel_rfl) (by kernel_rfl)
  refine leafb X4 199 [.o 11] _ _ none S48 ht48 rfl (fun h49 tk49 S49 ht49 => ?_) (by kernel_rfl) (by kernel_rfl)
  refine wpAny_bind (wpAny_of_eq (a := none) (by kernel_rfl) ?_)
  refine wpAny_bind (wpAny_of_eq (a := [Value.type "object"]) (by kernel_rfl) (wpAny_bind (wpAny_pure ?_)))
  have hf : ∀ a : Addr, List.filter (fun x => x != Value.ref a) [Value.ref a, Value.type "object"] = [Value.type "object"] := fun a => by simp
  refine wpAny_bind (wpAny_of_eq (a := false) (by rw [hf]; kernel_rfl) ?_)
  have r49 := S49.redo ht49 3 (nk0 q ++ [oCol q, oNs1 q, oCls1 q u]) q.y.tk (by kernel_rfl) (by kernel_rfl) (by kernel_rfl)
  replace S49 := r49.1
  replace ht49 := r49.2
  clear r49
  refine go_call X4 999 [.o 12, .o 12, .o 12, .o 12, .o 12, .o 12, .o 12, .o 11, .o 11, .o 11, .o 11, .o 11, .o 12, .o 12, .o 12, .o 12, .o 11, .o 11, .o 11, .o 11, .o 11, .o 11, .o 11, .o 2, .o 3, .o 4, .o 5, .o 6, .o 7, .o 8, .o 9, .o 13] (nst (nk0 q ++ [oCol q, oNs1 q, oCls1 q u]) 3 q.y.tk) _ (.call (.type "super") ⟨[.ref (q.y.N + 2), .ref (q.y.N + 2)], []⟩) S49 ht49 rfl (fun h50 tk50 S50 ht50 => ?_) (by kernel_rfl) (by kernel_rfl)
  have r50 := S50.redo ht50 4 (nk3 q u) (q.y.tk + 3) (by kernel_rfl) (by kernel_rfl) (by kernel_rfl)
  replace S50 := r50.1
  replace ht50 := r50.2
  clear r50
  have memC : ∀ p ∈ [(q.y.N + 2, kObj (kCd2 q) none (clsSl2 q u) (q.y.N + 2))], p ∈ nk3 q u := fun p hp => by
    rw [List.mem_singleton.mp hp]; exact List.mem_of_getElem? (i := 12) (by kernel_rfl)
  refine sup1 (y := { q.y with N := q.y.N + 4, tk := tk50 }) (cd := kCd2 q) (od := none) (sl := clsSl2 q u) X4 (S50.sub memC (by simp)) rfl (fun h51 tk51 T1 => ?_)
  have S51 := S50.add memC T1 (new := [(q.y.N + 4, supObj (q.y.N + 2))]) (fun p hp => by rw [List.mem_singleton.mp hp]; exact Nat.le_refl _)
  clear T1 S50
  refine go_call X4 99 [.o 14] (nst (nk3 q u ++ [(q.y.N + 4, supObj (q.y.N + 2))]) 5 tk51) _ (.call (.builtin "super.__getattribute__") ⟨[.ref (q.y.N + 4), .str (Str.ofString "__init_subclass__") tk51], []⟩) S51 rfl rfl (fun h52 tk52 S52 ht52 => ?_) (by kernel_rfl) (by kernel_rfl)
  have r52 := S52.redo ht52 5 (nk3 q u ++ [(q.y.N + 4, supObj (q.y.N + 2))]) (tk51 + 1) (by kernel_rfl) (by kernel_rfl) (by kernel_rfl)
  replace S52 := r52.1
  have memD : ∀ p ∈ [(q.y.N + 2, kObj (kCd2 q) none (clsSl2 q u) (q.y.N + 2)), (q.y.N + 4, supObj (q.y.N + 2))], p ∈ nk3 q u ++ [(q.y.N + 4, supObj (q.y.N + 2))] := fun p hp => by
    rcases List.mem_cons.mp hp with hp | hp
    · rw [hp]; exact List.mem_of_getElem? (i := 12) (by kernel_rfl)
    · rw [List.mem_singleton.mp hp]; exact List.mem_of_getElem? (i := 14) (by kernel_rfl)
  have nd2 : ∀ a b : Nat, a < b → [q.y.N + a, q.y.N + b].Nodup := fun a b h => by simp; omega
  refine sup2 (y := { q.y with N := q.y.N + 5, tk := tk52 }) (cd := kCd2 q) (od := none) (sl := clsSl2 q u) X4 (S52.sub memD (nd2 2 4 (by decide))) rfl (fun h53 tk53 T2 => ?_)
  have S53 := S52.add memD T2 (new := [(q.y.N + 5, bfObj (q.y.N + 2))]) (fun p hp => by rw [List.mem_singleton.mp hp]; exact Nat.le_refl _)
  clear T2 S52
  refine go_call X4 99 [] (nst (nk4 q u) 6 tk53) _ (.call (.ref (q.y.N + 5)) ⟨[], []⟩) (S53.cast (by kernel_rfl) (by kernel_rfl)) rfl rfl (fun h54 tk54 S54 ht54 => ?_) (by kernel_rfl) (by kernel_rfl)
  have r54 := S54.redo ht54 6 (nk4 q u) tk53 (by kernel_rfl) (by kernel_rfl) (by kernel_rfl)
  replace S54 := r54.1
  have memE : ∀ p ∈ [(q.y.N + 2, kObj (kCd2 q) none (clsSl2 q u) (q.y.N + 2)), (q.y.N + 5, bfObj (q.y.N + 2))], p ∈ nk4 q u := fun p hp => by
    rcases List.mem_cons.mp hp with hp | hp
    · rw [hp]; exact List.mem_of_getElem? (i := 12) (by kernel_rfl)
    · rw [List.mem_singleton.mp hp]; exact List.mem_of_getElem? (i := 15) (by kernel_rfl)
  refine sup3 (y := { q.y with N := q.y.N + 6, tk := tk54 }) (cd := kCd2 q) (od := none) (sl := clsSl2 q u) X4 (S54.sub memE (nd2 2 5 (by decide))) rfl (fun h55 tk55 T3 => ?_)
  have S55 := S54.add memE (c2 := 0) (new := []) T3 (fun p hp => nomatch hp)
  clear T3 S54
  rw [List.append_nil] at S55
  refine leaf X4 99 [] (nst (nk4 q u) 6 tk55) _ (.done (.ret (.ref (q.y.N + 2)))) S55 rfl rfl (fun h56 tk56 S56 ht56 => ?_) (by kernel_rfl) (by kernel_rfl)
  have r56 := S56.redo ht56 6 (nk4 q u) tk55 (by kernel_rfl) (by kernel_rfl) (by kernel_rfl)
  exact hR h56 tk56 r56.1

end
-- Kq
section
noncomputable def fdOf (p : Params) (i : Nat) : Str × Arguments × List Stmt × Scope := match (stBody p)[i]? with | some (.FunctionDef a b c _ _ _ d ..) => (a, b, c, d) | _ => default
noncomputable abbrev kFn (y : KP) (i : Nat) (cl : List (Str × Addr)) (cdv ct : Value) : FuncData := fnX (fdOf y.w.params i).1 (Str.ofString "cmp_to_key.<locals>.K." ++ (fdOf y.w.params i).1) (fdOf y.w.params i).2.1 (fdOf y.w.params i).2.2.1 (fdOf y.w.params i).2.2.2 cl .none .none .none (.str (Str.ofString "law_il0164_01") 1970) none cdv ct
noncomputable def qOf (y : KP) : NK where
  y := { y with N := y.N + 56, tk := y.tk + 73 }
  bt := y.N
  na := y.N + 2
  ol := y.N + 7
  sa := y.N + 55
  f0 := y.N + 14
  f1 := y.N + 22
  f2 := y.N + 30
  f3 := y.N + 38
  f4 := y.N + 46
  f5 := y.N + 54
  fd := fun i => match i with
    | 0 => kFn y 2 [] (.ref (y.N + 13)) .none
    | 1 => kFn y 3 [(Str.ofString "mycmp", y.L + 1)] (.ref (y.N + 21)) (.ref (y.N + 15))
    | 2 => kFn y 4 [(Str.ofString "mycmp", y.L + 1)] (.ref (y.N + 29)) (.ref (y.N + 23))
    | 3 => kFn y 5 [(Str.ofString "mycmp", y.L + 1)] (.ref (y.N + 37)) (.ref (y.N + 31))
    | 4 => kFn y 6 [(Str.ofString "mycmp", y.L + 1)] (.ref (y.N + 45)) (.ref (y.N + 39))
    | _ => kFn y 7 [(Str.ofString "mycmp", y.L + 1)] (.ref (y.N + 53)) (.ref (y.N + 47))
  h := fun i => pHash y.w (Str.ofString (["__module__", "__qualname__", "__firstlineno__", "__slots__", "__init__", "__lt__", "__gt__", "__eq__", "__le__", "__ge__", "__hash__", "__static_attributes__"].getD i ""))
  t := fun i => y.tk + [8, 10, 12, 16, 24, 33, 42, 51, 60, 69, 70, 72, 9, 13, 11, 15, 71].getD i 0
  ln := firstLineOf [] (stPos y.w.params)
def idxs : List Nat := [2, 4, 9, 16, 24, 32, 40, 48, 56, 57]
noncomputable def cRest (y : KP) (i : Nat) : List Value := match (ownAt (s26 y) i).data with | .fields vs => vs.toList.drop 2 | _ => []
def tabGet (o : Obj) : Array Value := match o.data with | .fields vs => vs | _ => #[]
theorem s26_all (y : KP) : ((s26 y).c = 56) ∧ ((s26 y).tk = y.tk + 73) ∧ (idxs.map (fun i => (s26 y).own[i]?) = (nk0 (qOf y)).map some) ∧ ([(s26 y).own[1]?, (s26 y).own[15]?, (s26 y).own[23]?] = [some (y.L + 1, ⟨y.oc, y.od, .cell (some (.ref 146)), y.os⟩), some (y.N + 13, ⟨.type "code", none, .fields (List.toArray (.str (fdOf y.w.params 2).1 (y.tk + 17) :: .str (Str.ofString "cmp_to_key.<locals>.K." ++ (fdOf y.w.params 2).1) (y.tk + 18) :: cRest y 15)), #[]⟩), some (y.N + 21, ⟨.type "code", none, .fields (List.toArray (.str (fdOf y.w.params 3).1 (y.tk + 25) :: .str (Str.ofString "cmp_to_key.<locals>.K." ++ (fdOf y.w.params 3).1) (y.tk + 26) :: cRest y 23)), #[]⟩)]) ∧ ((s26 y).own.map (·.1) = 125 :: (y.L + 1) :: (List.range 56).map (fun i => y.N + i)) ∧ ((s26 y).own[0]? = some (125, tabObj (tabGet (ownAt (s26 y) 0)))) := ⟨by kernel_rfl, by kernel_rfl, by kernel_rfl, by kernel_rfl, by kernel_rfl, by kernel_rfl⟩
theorem s26_c (y : KP) : (s26 y).c = 56 := (s26_all y).1
theorem s26_tk (y : KP) : (s26 y).tk = y.tk + 73 := (s26_all y).2.1
theorem s26_own (y : KP) : idxs.map (fun i => (s26 y).own[i]?) = (nk0 (qOf y)).map some := (s26_all y).2.2.1
theorem s26_code (y : KP) : [(s26 y).own[1]?, (s26 y).own[15]?, (s26 y).own[23]?] = [some (y.L + 1, ⟨y.oc, y.od, .cell (some (.ref 146)), y.os⟩), some (y.N + 13, ⟨.type "code", none, .fields (List.toArray (.str (fdOf y.w.params 2).1 (y.tk + 17) :: .str (Str.ofString "cmp_to_key.<locals>.K." ++ (fdOf y.w.params 2).1) (y.tk + 18) :: cRest y 15)), #[]⟩), some (y.N + 21, ⟨.type "code", none, .fields (List.toArray (.str (fdOf y.w.params 3).1 (y.tk + 25) :: .str (Str.ofString "cmp_to_key.<locals>.K." ++ (fdOf y.w.params 3).1) (y.tk + 26) :: cRest y 23)), #[]⟩)] := (s26_all y).2.2.2.1
theorem s26_addr (y : KP) : (s26 y).own.map (·.1) = 125 :: (y.L + 1) :: (List.range 56).map (fun i => y.N + i) := (s26_all y).2.2.2.2.1
theorem s26_tab (y : KP) : (s26 y).own[0]? = some (125, tabObj (tabGet (ownAt (s26 y) 0))) := (s26_all y).2.2.2.2.2
noncomputable abbrev oCode (c : Addr) (v : List Value) : Addr × Obj := (c, ⟨.type "code", none, .fields v.toArray, #[]⟩)
noncomputable abbrev kls (q : NK) (u : Tok) (c0 c1 : Addr) (v0 v1 : List Value) : List (Addr × Obj) := [oCls2 q u, oNs2 q, oMd q, (q.f0, nkFn q 0), (q.f1, nkFn q 1), oCode c0 v0, oCode c1 v1]
noncomputable abbrev kq (p : Params) (i : Nat) : Str := Str.ofString "cmp_to_key.<locals>.K." ++ (fdOf p i).1
noncomputable abbrev kFd (p : Params) (i : Nat) (cl : List (Str × Addr)) (cdv ct : Value) : FuncData := fnX (fdOf p i).1 (kq p i) (fdOf p i).2.1 (fdOf p i).2.2.1 (fdOf p i).2.2.2 cl .none .none .none (.str (Str.ofString "law_il0164_01") 1970) none cdv ct
structure KOk (w : World) (cell : Addr) (q : NK) (c0 c1 : Addr) (v0 v1 : List Value) : Prop where
  hw : q.y.w = w
  fd0 : q.fd 0 = kFd w.params 2 [] (.ref c0) .none
  fd1 : ∃ ct, q.fd 1 = kFd w.params 3 [(Str.ofString "mycmp", cell)] (.ref c1) ct
  v0 : ∃ t t' r, v0 = .str (fdOf w.params 2).1 t :: .str (kq w.params 2) t' :: r
  v1 : ∃ t t' r, v1 = .str (fdOf w.params 3).1 t :: .str (kq w.params 3) t' :: r
theorem Sat.fr {g h h' : Heap} {L : Addr} {m : Str → Option Value} {N c : Nat} {own : List (Addr × Obj)} (F : Fr g L h m) (S : Sat N h g c own h') (hL : L ∉ own.map (·.1)) : Fr g L h' m := ⟨F.ns.at' fun o e => S.keep L o hL e, S.old, F.above⟩
theorem Sat.news {g h h' : Heap} {L : Addr} {N c : Nat} {own : List (Addr × Obj)} (S : Sat N h g c own h') (hL : L ∉ own.map (·.1)) : News g L h' own := fun p hp => ⟨S.mine p hp, fun e => hL (e ▸ List.mem_map_of_mem hp), S.fresh p hp⟩
theorem Sat.rest {g h h' : Heap} {L : Addr} {N c : Nat} {own rest : List (Addr × Obj)} (S : Sat N h g c own h') (R : News g L h rest) (hd : ∀ p ∈ rest, p.1 ∉ own.map (·.1)) : News g L h' rest := fun p hp => ⟨S.keep _ _ (hd p hp) (R p hp).1, (R p hp).2⟩
end
-- Mkk
section
theorem nsGet_is {prog : Program} {w : World} {A : Around} {E : Value → Shared → Prop} {s : Shared} {a : Addr} {m : Str → Option Value} {x : Str} {v : Option Value} {Q : Option Value → Shared → Prop} (H : s.heap.Ns a m) (e : m x = v) (k : Q v s) : wpAny (model prog w) A (nsGet a x) Q E s := wpAny_nsGet H (e ▸ k)
theorem mkKy (y : KP) {A : Around} {E : Value → Shared → Prop} {s : Shared} {g : Heap} {m mg mb : Str → Option Value} {p : Program} {loose : List Str} {mean : ExcName → Option Value} {rest : List (Addr × Obj)} {Q : Flow → Shared → Prop}
  (F : Fr g y.L s.heap m) (X : (hd.heap_39 y.w.params).In g) (X4 : (K4 y.w.params y.sl).In g) (T : Top p loose mean mg mb g) (N : News g y.L s.heap ((y.L + 1, ⟨y.oc, y.od, .cell (some (.ref 146)), y.os⟩) :: (125, tabObj #[]) :: rest)) (hyN : s.heap.objs.size = y.N) (hyt : s.toks = y.tk) (hL : 125 < y.L) (hrest : ∀ p ∈ rest, p.1 ≠ 125 ∧ p.1 ≠ y.L + 1)
  (hd : A.depth + 8 < recursionLimit) (hu : A.units + 40 < cLine) (hh : A.handled = none)
  (hQ : ∀ (q : NK) (u : Tok) (c0 c1 : Addr) (v0 v1 : List Value) (ps : Array Value) h' tk', KOk y.w (y.L + 1) q c0 c1 v0 v1 → ((kls q u c0 c1 v0 v1).map (·.1)).Nodup → y.L < q.y.N → Fr g y.L h' (fun z => if z = Str.ofString "K" then some (.ref (q.y.N + 2)) else m z) → News g y.L h' ((y.L + 1, ⟨y.oc, y.od, .cell (some (.ref 146)), y.os⟩) :: kls q u c0 c1 v0 v1 ++ (125, tabObj ps) :: rest) → Q .next { s with heap := h', toks := tk' }) :
  wpAny (model PySem.Challenge.rw_il0164_01.row.prog y.w) A (exec (ctkStmt y.w.params) (ctkEnv y.w.params y.L)) Q E s := by
  rw [ctkStmt_is, arm_exec_ClassDef]
  refine wpAny_bind (wpAny_of_eq (a := []) (by kernel_rfl) ?_)
  refine wpAny_bind (wpAny_standAt ?_)
  have Tb : s.heap.Ns builtinsNs mb := T.b.keeps F.keep
  have Tg : s.heap.Ns mainGlobals mg := T.g.keeps F.keep
  refine wpAny_bind ?_
  unfold buildClassGuard
  have e : bootBuiltins "__build_class__" = some (.builtin "__build_class__") := by kernel_rfl
  refine wpAny_bind (nsGet_is (a := builtinsNs) Tb ((T.builtins _ (by decide)).trans e) ?_)
  refine wpAny_pure ?_
  refine wpAny_bind (wpAny_holding (wpAny_bind ?_))
  have e2 : starEach (stBases y.w.params) (ctkEnv y.w.params y.L) = [(false, eval (.Name "object" (match stBases y.w.params with | [e] => e.pos | _ => default)) (ctkEnv y.w.params y.L))] := by kernel_rfl
  rw [e2]
  refine evalArgs1 ?_
  have e3 : mg "object" = none := mg_none_of X T.g (by kernel_rfl)
  have e4 : mb "object" = some (.type "object") := by rw [T.builtins _ (by decide)]; kernel_rfl
  refine wpAny_Name (ks_loadName_global (by kernel_rfl) (by kernel_rfl) ?_) (by decide)
  unfold loadGlobal
  refine wpAny_bind (nsGet_is (a := mainGlobals) Tg e3 ?_)
  refine wpAny_bind (nsGet_is (a := builtinsNs) Tb e4 ?_)
  refine wpAny_pure (wpAny_bind (wpAny_standAt (wpAny_holding ?_)))
  have S0 : Sat y.N s.heap g (s0 y).c (s0 y).own s.heap := by
    rw [← hyN]
    refine Sat.start F (fun p hp => ?_) ?_
    · rcases List.mem_cons.mp hp with rfl | hp
      · exact N _ (.tail _ (.head _))
      · rw [List.mem_singleton.mp hp]; exact N _ (.head _)
    · show [125, y.L + 1].Nodup
      have hL' : @LT.lt Nat _ 125 y.L := hL
      have : ¬ (125 : Nat) = y.L + 1 := Nat.ne_of_lt (Nat.lt_succ_of_lt hL')
      simpa using this
  unfold buildClass
  refine leafb X4 99 [] (s0 y) (s1 y) (.ref y.N) S0 hyt rfl (fun h1 tk1 S1 ht1 => ?_) (by kernel_rfl) (by kernel_rfl)
  refine wpAny_bind (wpAny_of_eq (a := ([.type "object"], false)) (by kernel_rfl) ?_)
  refine wpAny_bind (wpAny_of_eq (a := .type "type") (by kernel_rfl) ?_)
  refine wpAny_bind (wpAny_of_eq (a := true) (by kernel_rfl) ?_)
  refine wpAny_bind (wpAny_of_eq (a := .type "type") (by kernel_rfl) ?_)
  refine leafb X4 99 [] (s1 y) (s2 y) (.str "K" y.tk) S1 ht1 rfl (fun h2 tk2 S2 ht2 => ?_) (by kernel_rfl) (by kernel_rfl)
  refine wpAny_bind (wpAny_pure (wpAny_holding ?_))
  refine wpAny_bind (go_call X4 99 [] (s2 y) (s3 y) (.call (.builtin "type.__getattribute__") (aGet y)) S2 ht2 rfl (fun h3 tk3 S3 ht3 => ?_) (by kernel_rfl) (by kernel_rfl))
  refine go_b (entryFor_of_tree (by kernel_rfl)) (by kernel_rfl) (by kernel_rfl) (go_call X4 99 [] (s3 y) (s4 y) (.call (.builtin "classmethod_descriptor.__get__") aCmd) S3 ht3 rfl (fun h4 tk4 S4 ht4 => ?_) (by kernel_rfl) (by kernel_rfl))
  refine go_b (entryFor_of_tree (by kernel_rfl)) (by kernel_rfl) (by kernel_rfl) (leaf X4 99 [] (s4 y) (s5 y) (.done (.ret (.ref (y.N + 1)))) S4 ht4 rfl (fun h5 tk5 S5 ht5 => ?_) (by kernel_rfl) (by kernel_rfl))
  refine leaf X4 99 [] (s5 y) (s6 y) (.done (.ret (.ref (y.N + 1)))) S5 ht5 rfl (fun h6 tk6 S6 ht6 => ?_) (by kernel_rfl) (by kernel_rfl)
  refine leaf X4 99 [] (s6 y) (s7 y) (some (.ref (y.N + 1))) S6 ht6 rfl (fun h7 tk7 S7 ht7 => ?_) (by kernel_rfl) (by kernel_rfl)
  refine wpAny_bind (wpAny_call (go_again X4 99 [.o 3] (s7 y) (s8 y) (c' := .builtin "type.__prepare__" (aPrep y)) S7 ht7 rfl (by kernel_rfl) (fun h8 tk8 S8 ht8 => ?_) (by kernel_rfl) (by kernel_rfl)))
  refine go_e (entryFor_of_tree (by kernel_rfl)) (leaf X4 99 [] (s8 y) (s9 y) (.done (.ret (.ref (y.N + 2)))) S8 ht8 rfl (fun h9 tk9 S9 ht9 => ?_) (by kernel_rfl) (by kernel_rfl))
  refine leafb X4 99 [] (s9 y) (s10 y) () S9 ht9 rfl (fun h10 tk10 S10 ht10 => ?_) (by kernel_rfl) (by kernel_rfl)
  refine leafb X4 99 [.o 4] (s10 y) (s11 y) (some (.builtin "dict.__getitem__")) S10 ht10 rfl (fun h11 tk11 S11 ht11 => ?_) (by kernel_rfl) (by kernel_rfl)
  refine wpAny_ite_false (by kernel_rfl) (wpAny_holding ?_)
  refine wpAny_ite_false (by kernel_rfl) (wpAny_bind (wpAny_pure ?_))
  refine wpAny_ite_false (by kernel_rfl) (wpAny_bind (wpAny_pure ?_))
  refine leafb X4 199 [.k 129, .o 0, .o 0, .o 0, .o 0] (s11 y) (s12 y) (.ref (y.N + 5)) S11 ht11 rfl (fun h12 tk12 S12 ht12 => ?_) (by kernel_rfl) (by kernel_rfl)
  refine leafb X4 99 [.k 3, .k 4] (s12 y) (s13 y) 0 S12 ht12 rfl (fun h13 tk13 S13 ht13 => ?_) (by kernel_rfl) (by kernel_rfl)
  refine leafb X4 99 [.k 3] (s13 y) (s14 y) (y.N + 6) S13 ht13 rfl (fun h14 tk14 S14 ht14 => ?_) (by kernel_rfl) (by kernel_rfl)
  refine wpAny_bind (wpAny_of_eq (a := [(Str.ofString "mycmp", y.L + 1)]) (by kernel_rfl) ?_)
  refine wpAny_holding (wpAny_bind (wpAny_enterFrame (T.nolimit.keeps S14.old) (by omega) ?_))
  refine wpAny_bind (wpAny_onRaise ?_)
  refine leafb X4 99 [.o 4, .o 4, .k 3] (s14 y) (s15 y) vMod S14 ht14 rfl (fun h15 tk15 S15 ht15 => ?_) (by kernel_rfl) (by kernel_rfl)
  refine leafb X4 99 [.o 4, .o 4, .o 4] (s15 y) (s16 y) () S15 ht15 rfl (fun h16 tk16 S16 ht16 => ?_) (by kernel_rfl) (by kernel_rfl)
  refine leafb X4 99 [] (s16 y) (s17 y) (vQual y) S16 ht16 rfl (fun h17 tk17 S17 ht17 => ?_) (by kernel_rfl) (by kernel_rfl)
  refine leafb X4 99 [.o 4, .o 4, .o 4] (s17 y) (s18 y) () S17 ht17 rfl (fun h18 tk18 S18 ht18 => ?_) (by kernel_rfl) (by kernel_rfl)
  refine leafb X4 99 [] (s18 y) (s19 y) (vLine y) S18 ht18 rfl (fun h19 tk19 S19 ht19 => ?_) (by kernel_rfl) (by kernel_rfl)
  refine leafb X4 99 [.o 4, .o 4, .o 4] (s19 y) (s20 y) () S19 ht19 rfl (fun h20 tk20 S20 ht20 => ?_) (by kernel_rfl) (by kernel_rfl)
  refine wpAny_pure ?_
  refine wpAny_bind (wpAny_run (go_fin X4 999 csBody (s20 y) (s21 y) .next S20 ht20 rfl (fun h21 tk21 S21 ht21 => ?_) (by kernel_rfl) (by kernel_rfl)))
  refine wpAny_bind (wpAny_onRaise ?_)
  refine leafb X4 99 [] (s21 y) (s22 y) (vObj y) S21 ht21 rfl (fun h22 tk22 S22 ht22 => ?_) (by kernel_rfl) (by kernel_rfl)
  refine leafb X4 99 [] (s22 y) (s23 y) (.ref (y.N + 55)) S22 ht22 rfl (fun h23 tk23 S23 ht23 => ?_) (by kernel_rfl) (by kernel_rfl)
  refine leafb X4 99 [.o 4, .o 4, .o 4] (s23 y) (s24 y) () S23 ht23 rfl (fun h24 tk24 S24 ht24 => ?_) (by kernel_rfl) (by kernel_rfl)
  refine wpAny_pure ?_
  refine wpAny_ite_false (by kernel_rfl) (wpAny_bind (wpAny_call ?_))
  refine go_again X4 99 [] (s24 y) (s25 y) (c' := .builtin "type.__call__" (aCall y)) S24 ht24 rfl (by kernel_rfl) (fun h25 tk25 S25 ht25 => ?_) (by kernel_rfl) (by kernel_rfl)
  refine go_e (entryFor_of_tree (by kernel_rfl)) (go_call X4 99 [] (s25 y) (s26 y) (.call (.builtin "type.__new__") (aCall y)) S25 ht25 rfl (fun h26 tk26 S26 ht26 => ?_) (by kernel_rfl) (by kernel_rfl))
  have C := s26_own y
  simp only [idxs, List.map_cons, List.map_nil, List.cons.injEq, and_true] at C
  obtain ⟨C2, C4, C9, C16, C24, C32, C40, C48, C56, C57⟩ := C
  have D := s26_code y
  simp only [List.cons.injEq, and_true] at D
  obtain ⟨D1, D15, D23⟩ := D
  have hsub : ∀ p ∈ nk0 (qOf y), p ∈ (s26 y).own := by
    intro p hp
    simp only [List.mem_cons, List.not_mem_nil, or_false] at hp
    rcases hp with rfl | rfl | rfl | rfl | rfl | rfl | rfl | rfl | rfl | rfl
    · exact List.mem_of_getElem? C2
    · exact List.mem_of_getElem? C4
    · exact List.mem_of_getElem? C9
    · exact List.mem_of_getElem? C16
    · exact List.mem_of_getElem? C24
    · exact List.mem_of_getElem? C32
    · exact List.mem_of_getElem? C40
    · exact List.mem_of_getElem? C48
    · exact List.mem_of_getElem? C56
    · exact List.mem_of_getElem? C57
  rw [s26_tk] at ht26
  have S0' : Sat (qOf y).y.N h26 g 0 (nk0 (qOf y)) h26 := by
    have := S26.sub hsub (by show [y.N, y.N + 2, y.N + 7, y.N + 14, y.N + 22, y.N + 30, y.N + 38, y.N + 46, y.N + 54, y.N + 55].Nodup; simp)
    rw [s26_c] at this
    exact this
  refine newK1 (q := qOf y) (u := y.tk) X4 (by show (y.N + 2 : Nat) ≠ 1; omega) S0' ht26 (fun h27 tk27 S27 => ?_)
  refine go_call (y := (qOf y).y) X4 99 [.o 12, .o 12] (nst (nk4 (qOf y) y.tk) 6 tk27) _ (.call (.builtin "type.__init__") ⟨[.ref (y.N + 58), .str "K" y.tk, .ref y.N, .ref (y.N + 2)], []⟩) S27 rfl rfl (fun h28 tk28 S28 ht28 => ?_) (by kernel_rfl) (by kernel_rfl)
  have r28 := S28.redo ht28 6 (nk4 (qOf y) y.tk) tk27 (by kernel_rfl) (by kernel_rfl) (by kernel_rfl)
  replace S28 := r28.1
  replace ht28 := r28.2
  clear r28
  refine go_again (y := (qOf y).y) X4 99 [.o 12] (nst (nk4 (qOf y) y.tk) 6 tk27) _ (c' := .builtin "type.__init__" ⟨[.ref (y.N + 58), .str "K" y.tk, .ref y.N, .ref (y.N + 2)], []⟩) S28 ht28 rfl (by kernel_rfl) (fun h29 tk29 S29 ht29 => ?_) (by kernel_rfl) (by kernel_rfl)
  refine go_e (b := PySem.Builtin.«type.__init__») (entryFor_of_tree (by kernel_rfl)) ?_
  refine leaf (y := (qOf y).y) X4 99 [] _ _ (.done (.ret .none)) S29 ht29 rfl (fun h30 tk30 S30 ht30 => ?_) (by kernel_rfl) (by kernel_rfl)
  refine leaf (y := (qOf y).y) X4 99 [] _ _ (.done (.ret (.ref (y.N + 58)))) S30 ht30 rfl (fun h31 tk31 S31 ht31 => ?_) (by kernel_rfl) (by kernel_rfl)
  have r31 := S31.redo ht31 6 (nk4 (qOf y) y.tk) tk27 (by kernel_rfl) (by kernel_rfl) (by kernel_rfl)
  replace S31 := r31.1
  clear r31 ht31 ht30 S30 S29 ht29 S28 ht28 S27
  have SA := S26.add hsub (by rw [s26_c]; exact S31) (new := [oCol (qOf y), oNs2 (qOf y), oCls2 (qOf y) y.tk, oMd (qOf y), ((qOf y).y.N + 4, supObj ((qOf y).y.N + 2)), ((qOf y).y.N + 5, bfObj ((qOf y).y.N + 2))]) (by
    intro p hp
    rw [s26_c]
    simp only [List.mem_cons, List.not_mem_nil, or_false] at hp
    rcases hp with rfl | rfl | rfl | rfl | rfl | rfl
    · show y.N + 56 ≤ y.N + 56; exact Nat.le_refl _
    · show y.N + 56 ≤ y.N + 56 + 1; omega
    · show y.N + 56 ≤ y.N + 56 + 2; omega
    · show y.N + 56 ≤ y.N + 56 + 3; omega
    · show y.N + 56 ≤ y.N + 56 + 4; omega
    · show y.N + 56 ≤ y.N + 56 + 5; omega)
  clear S31
  have Nsz : @LT.lt Nat _ y.L y.N := by rw [← hyN]; exact F.ns.lt
  have hL' : @LT.lt Nat _ 125 y.L := hL
  have hmap : ((s26 y).own ++ [oCol (qOf y), oNs2 (qOf y), oCls2 (qOf y) y.tk, oMd (qOf y), ((qOf y).y.N + 4, supObj ((qOf y).y.N + 2)), ((qOf y).y.N + 5, bfObj ((qOf y).y.N + 2))]).map (·.1) = (125 :: (y.L + 1) :: (List.range 56).map (fun i => y.N + i)) ++ [y.N + 56, y.N + 57, y.N + 58, y.N + 59, y.N + 60, y.N + 61] := by
    rw [List.map_append, s26_addr]; rfl
  have hin : ∀ a : Nat, a ∈ (125 :: (y.L + 1) :: (List.range 56).map (fun i => y.N + i)) ++ [y.N + 56, y.N + 57, y.N + 58, y.N + 59, y.N + 60, y.N + 61] → a = 125 ∨ a = y.L + 1 ∨ @LE.le Nat _ y.N a := by
    intro a ha
    rcases List.mem_append.mp ha with ha | ha
    · rcases List.mem_cons.mp ha with ha | ha
      · exact .inl ha
      · rcases List.mem_cons.mp ha with ha | ha
        · exact .inr (.inl ha)
        · obtain ⟨i, _, rfl⟩ := List.mem_map.mp ha
          exact .inr (.inr (Nat.le_add_right _ _))
    · simp only [List.mem_cons, List.not_mem_nil, or_false] at ha
      exact .inr (.inr (by rcases ha with rfl | rfl | rfl | rfl | rfl | rfl <;> exact Nat.le_add_right _ _))
  have hLn : y.L ∉ ((s26 y).own ++ [oCol (qOf y), oNs2 (qOf y), oCls2 (qOf y) y.tk, oMd (qOf y), ((qOf y).y.N + 4, supObj ((qOf y).y.N + 2)), ((qOf y).y.N + 5, bfObj ((qOf y).y.N + 2))]).map (·.1) := by
    rw [hmap]
    intro h
    rcases hin y.L h with h | h | h
    · exact absurd h (Nat.ne_of_gt hL')
    · exact absurd h (Nat.ne_of_lt (Nat.lt_succ_self _))
    · exact absurd Nsz (Nat.not_lt.mpr h)
  have F2 := SA.fr F hLn
  have N2 := SA.news hLn
  have N3 := SA.rest (rest := rest) (fun p hp => N p (.tail _ (.tail _ hp))) (fun p hp => by
    rw [hmap]
    intro h
    have hp1 := hrest p hp
    have hp2 : @LT.lt Nat _ p.1 y.N := by rw [← hyN]; exact Heap.lt_size (N p (.tail _ (.tail _ hp))).1
    rcases hin p.1 h with h | h | h
    · exact hp1.1 h
    · exact hp1.2 h
    · exact absurd hp2 (Nat.not_lt.mpr h))
  refine wpAny_pure ?_
  refine wpAny_bind (wpAny_of_eq (a := .ref (y.N + 58)) (by kernel_rfl) ?_)
  refine wpAny_bind (wpAny_standAt ?_)
  have N4 : News g y.L h31 ((y.L + 1, ⟨y.oc, y.od, .cell (some (.ref 146)), y.os⟩) :: kls (qOf y) y.tk (y.N + 13) (y.N + 21) (.str (fdOf y.w.params 2).1 (y.tk + 17) :: .str (kq y.w.params 2) (y.tk + 18) :: cRest y 15) (.str (fdOf y.w.params 3).1 (y.tk + 25) :: .str (kq y.w.params 3) (y.tk + 26) :: cRest y 23) ++ (125, tabObj (tabGet (ownAt (s26 y) 0))) :: rest) := by
    intro p hp
    rcases List.mem_append.mp hp with hp | hp
    · refine N2 p ?_
      simp only [List.mem_cons, List.not_mem_nil, or_false] at hp
      rcases hp with rfl | rfl | rfl | rfl | rfl | rfl | rfl | rfl
      · exact List.mem_append_left _ (List.mem_of_getElem? D1)
      · exact List.mem_append_right _ (.tail _ (.tail _ (.head _)))
      · exact List.mem_append_right _ (.tail _ (.head _))
      · exact List.mem_append_right _ (.tail _ (.tail _ (.tail _ (.head _))))
      · exact List.mem_append_left _ (List.mem_of_getElem? C16)
      · exact List.mem_append_left _ (List.mem_of_getElem? C24)
      · exact List.mem_append_left _ (List.mem_of_getElem? D15)
      · exact List.mem_append_left _ (List.mem_of_getElem? D23)
    · rcases List.mem_cons.mp hp with rfl | hp
      · exact N2 _ (List.mem_append_left _ (List.mem_of_getElem? (s26_tab y)))
      · exact N3 p hp
  refine wpAny_bind (bindName_ (storeX_L F2 N4 (fun h' F' N' => wpAny_pure ?_) (by kernel_rfl) (by kernel_rfl)))
  refine hQ (qOf y) y.tk (y.N + 13) (y.N + 21) _ _ _ h' _ ⟨rfl, rfl, ⟨_, rfl⟩, ⟨_, _, _, rfl⟩, ⟨_, _, _, rfl⟩⟩ ?_ (Nat.lt_of_lt_of_le Nsz (Nat.le_add_right _ _)) F' N'
  show [y.N + 56 + 2, y.N + 56 + 1, y.N + 56 + 3, y.N + 14, y.N + 22, y.N + 13, y.N + 21].Nodup
  simp
theorem mkK {w : World} {A : Around} {E : Value → Shared → Prop} {s : Shared} {g : Heap} {L : Addr} {m mg mb : Str → Option Value} {p : Program} {loose : List Str} {mean : ExcName → Option Value} {cellO : Obj} {rest : List (Addr × Obj)} {Q : Flow → Shared → Prop}
  (F : Fr g L s.heap m) (X : (hd.heap_39 w.params).In g) (T : Top p loose mean mg mb g) (N : News g L s.heap ((L + 1, cellO) :: (125, tabObj #[]) :: rest)) (hc : cellO.data = .cell (some (.ref 146))) (hL : 125 < L) (hrest : ∀ p ∈ rest, p.1 ≠ 125 ∧ p.1 ≠ L + 1)
  (hd : A.depth + 8 < recursionLimit) (hu : A.units + 40 < cLine) (hh : A.handled = none)
  (hQ : ∀ (q : NK) (u : Tok) (c0 c1 : Addr) (v0 v1 : List Value) (ps : Array Value) h' tk', KOk w (L + 1) q c0 c1 v0 v1 → ((kls q u c0 c1 v0 v1).map (·.1)).Nodup → L < q.y.N → Fr g L h' (fun z => if z = Str.ofString "K" then some (.ref (q.y.N + 2)) else m z) → News g L h' ((L + 1, cellO) :: kls q u c0 c1 v0 v1 ++ (125, tabObj ps) :: rest) → Q .next { s with heap := h', toks := tk' }) :
  wpAny (model PySem.Challenge.rw_il0164_01.row.prog w) A (exec (ctkStmt w.params) (ctkEnv w.params L)) Q E s := by
  have e5 : mg "__builtins__" = some (.ref 4) := mg_of X T.g (by kernel_rfl)
  obtain ⟨bm, ob, b1, b2, b3, b4, b5, b6⟩ := T.bmain
  rw [e5] at b1
  cases b1
  obtain ⟨oc, od, odat, sl⟩ := ob
  dsimp only at b4 b5 b6
  subst b4 b5 b6
  have X4 : (K4 w.params sl).In g := by
    intro a o ha
    rw [List.lookup_cons] at ha
    split at ha
    · rename_i q; cases ha; rw [eq_of_beq q]; exact b3
    · exact X _ _ ha
  clear b3
  obtain ⟨oc, od, odt, osl⟩ := cellO
  dsimp only at hc
  subst hc
  exact mkKy ⟨w, sl, _, L, _, oc, od, osl⟩ F X X4 T N rfl rfl hL hrest hd hu hh hQ
end
-- Ctk
section
theorem mkKx {w : World} {A : Around} {E : Value → Shared → Prop} {s : Shared} {g : Heap} {L : Addr} {m mg mb : Str → Option Value} {p : Program} {loose : List Str} {mean : ExcName → Option Value} {cellO : Obj} {rest : List (Addr × Obj)} {Q : Flow → Shared → Prop}
  {st : Stmt} {sc : Scope} (e1 : st = ctkStmt w.params) (e2 : sc = (ctkFn w.params).scope)
  (F : Fr g L s.heap m) (X : (hd.heap_39 w.params).In g) (T : Top p loose mean mg mb g) (N : News g L s.heap ((L + 1, cellO) :: (125, tabObj #[]) :: rest)) (hc : cellO.data = .cell (some (.ref 146))) (hL : 125 < L) (hrest : ∀ p ∈ rest, p.1 ≠ 125 ∧ p.1 ≠ L + 1)
  (hd : A.depth + 8 < recursionLimit) (hu : A.units + 40 < cLine) (hh : A.handled = none)
  (hQ : ∀ (q : NK) (u : Tok) (c0 c1 : Addr) (v0 v1 : List Value) (ps : Array Value) h' tk', KOk w (L + 1) q c0 c1 v0 v1 → ((kls q u c0 c1 v0 v1).map (·.1)).Nodup → L < q.y.N → Fr g L h' (fun z => if z = Str.ofString "K" then some (.ref (q.y.N + 2)) else m z) → News g L h' ((L + 1, cellO) :: kls q u c0 c1 v0 v1 ++ (125, tabObj ps) :: rest) → Q .next { s with heap := h', toks := tk' }) :
  wpAny (model PySem.Challenge.rw_il0164_01.row.prog w) A (exec st (envOfC (Str.ofString "cmp_to_key") sc L 130 (.ref 129))) Q E s := by
  subst e1 e2
  exact mkK F X T N hc hL hrest hd hu hh hQ
def RetsK (w : World) (h₀ : Heap) (L : Addr) (m : Str → Option Value) (news : List (Addr × Obj)) (s : Shared) (Q : Value → Shared → Prop) : Prop :=
  ∃ rest, (125, tabObj #[]) ∈ news ∧ (∀ p ∈ rest, p ∈ news ∧ p.1 ≠ 125) ∧ 125 < L ∧
  ∀ (q : NK) (u : Tok) (c0 c1 : Addr) (v0 v1 : List Value) (cell : Addr) (co : Obj) (ps : Array Value) h' tk', KOk w cell q c0 c1 v0 v1 → co.data = .cell (some (.ref 146)) → ((kls q u c0 c1 v0 v1).map (·.1)).Nodup → @LT.lt Nat _ L q.y.N → Fr h₀ L h' m → News h₀ L h' ((cell, co) :: kls q u c0 c1 v0 v1 ++ (125, tabObj ps) :: rest) → Q (.ref (q.y.N + 2)) { s with heap := h', toks := tk' }
theorem ctk {w : World} : CallsTo w 130 [.ref 146] [] 10 80 (RetsK w) := by
  unfold CallsTo RetsK
  k_fill
  intros; rename_i h₀ L m news s Q E hB hF hX hN hT hk hd hu hret
  refine wpAny_call ?_
  refine' code_defC ?k1h16 ?k2h16 ?k3h16 ?k4h16 ?k5h16 ?kAh16 ?kFh16 ?kKh16 ?k6h16 ?k7h16 ?k8h16 ?k9h16 ?kBh16 ?kDh16 ?_ ?c2h16 ?c3h16 ?c4h16; (case kAh16 | kFh16 => exact rfl); (case kKh16 => first | assumption | exact rfl); (case k1h16 | k2h16 | k3h16 | k4h16 | k5h16 => k_asm); (case k6h16 | k7h16 => k_is); (case k8h16 => ktr_room); (case k9h16 => first | exact BindsTo.of_eq rfl | exact binds_K (by k_in) rfl (by k_is) rfl rfl rfl); (case kBh16 | c2h16 | c3h16 | c4h16 => exact rfl); (case kDh16 => decide +kernel); k_whole; intro g L1 h1 tk1 icells FG F1 N1 iY B1 X1 T1 l1; (try k_lt l1); k_cells iY; (try simp only [List.cons_append, List.nil_append] at N1); (try dsimp only); (try k_lift B1); (try k_fold)
  rename_i co hco
  obtain ⟨rest, h125, hrest, hL, hret⟩ := hret
  have hco2 : co.data = .cell (some (.ref 146)) := hco.trans (by kernel_rfl)
  clear hco
  have hL1 : @LT.lt Nat _ 125 L1 := l1 _ h125
  refine wpAny_execs_cons ?_
  refine mkKx (by kernel_rfl) (by kernel_rfl) F1 X1 T1 (cellO := co) (rest := rest) ?hN hco2 hL1 ?hr ?hd ?hu rfl ?hQ
  case hN =>
    intro p hp
    rcases List.mem_cons.mp hp with rfl | hp
    · exact N1 _ (.head _)
    · rcases List.mem_cons.mp hp with rfl | hp
      · exact N1 _ (.tail _ h125)
      · exact N1 _ (.tail _ (hrest p hp).1)
  case hr =>
    intro p hp
    refine ⟨(hrest p hp).2, fun e => ?_⟩
    have h1 : @LT.lt Nat _ p.1 L1 := l1 p (hrest p hp).1
    rw [e] at h1
    exact absurd h1 (Nat.not_lt.mpr (Nat.le_succ _))
  case hd => ktr_room
  case hu => ktr_units
  case hQ =>
    intro q u c0 c1 v0 v1 ps h' tk' ok nd lt F2 N2
    have hret := hret q u c0 c1 v0 v1 (L1 + 1) co ps
    have hlt : @LT.lt Nat _ L q.y.N := Nat.lt_trans (Nat.lt_of_lt_of_le FG.ns.lt F1.above) lt
    dsimp only
    k_steps
    refine hret _ _ ok hco2 nd hlt ?F ?N
    case F => k_asm
    case N => k_asm
end
-- Kc
section
abbrev kInst (C d : Addr) (v : Value) : Obj := ⟨.ref C, some d, .plain, #[some v]⟩
noncomputable abbrev gl (q : NK) (u : Tok) (k d : Addr) (v : Value) : List (Addr × Obj) := [oCls2 q u, oNs2 q, oMd q, (k, kInst (q.y.N + 2) d v)]
theorem getobj {y : KP} {q : NK} {u : Tok} {k d : Addr} {x : Str} {t : Tok} {A : Around} {E : Value → Shared → Prop} {s : Shared} {hs g : Heap} {Q : Value → Shared → Prop} (X4 : (K4 y.w.params y.sl).In g) (S0 : Sat y.N hs g 0 (gl q u k d (.str x t)) s.heap) (ht0 : s.toks = y.tk)
    (hQ : ∀ h' tk', Sat y.N hs g 0 (gl q u k d (.str x t)) h' → Q (.str x t) { s with heap := h', toks := tk' }) : wpAny (model PySem.Challenge.rw_il0164_01.row.prog y.w) A (getAttr (.ref k) (Str.ofString "obj") true) Q E s := by
  refine go_call X4 99 [.o 3, .o 0, .o 0, .o 1] (nst (gl q u k d (.str x t)) 0 y.tk) _ (.builtin "proto.getattr_hooked" ⟨[.ref k, .str (Str.ofString "obj") y.tk], []⟩) S0 ht0 rfl (fun h1 tk1 S1 ht1 => ?_) (by kernel_rfl) (by kernel_rfl)
  refine go_e (b := PySem.Builtin.«proto.getattr_hooked») (entryFor_of_tree (by kernel_rfl)) ?_
  refine go_call X4 99 [.o 3, .o 0, .o 0, .o 1, .o 2, .o 2, .o 0, .o 0, .o 1] _ _ (.call (.builtin "member_descriptor.__get__") ⟨[.ref (q.y.N + 3), .ref k, .ref (q.y.N + 2)], []⟩) S1 ht1 rfl (fun h2 tk2 S2 ht2 => ?_) (by kernel_rfl) (by kernel_rfl)
  refine go_again X4 99 [.o 2] _ _ (c' := .builtin "member_descriptor.__get__" ⟨[.ref (q.y.N + 3), .ref k, .ref (q.y.N + 2)], []⟩) S2 ht2 rfl (by kernel_rfl) (fun h3 tk3 S3 ht3 => ?_) (by kernel_rfl) (by kernel_rfl)
  refine go_e (b := PySem.Builtin.«member_descriptor.__get__») (entryFor_of_tree (by kernel_rfl)) ?_
  refine wpAny_bind (wpAny_of_eq (a := (Value.ref (q.y.N + 3), some (.ref k), some (.ref (q.y.N + 2)))) (by kernel_rfl) ?_)
  refine wpAny_bind (m := Builtin.Getset_descriptor.descrCheckInstance (.ref (q.y.N + 3)) (.ref k)) ?_
  unfold Builtin.Getset_descriptor.descrCheckInstance
  refine leafb X4 99 [.o 2, .o 2] _ _ (Str.ofString "obj", .ref (q.y.N + 2)) S3 ht3 rfl (fun h4 tk4 S4 ht4 => ?_) (by kernel_rfl) (by kernel_rfl)
  unfold isInstance
  refine wpAny_bind (wpAny_bind (leaf X4 99 [.o 3] _ _ (.ref (q.y.N + 2)) S4 ht4 rfl (fun h5 tk5 S5 ht5 => ?_) (by kernel_rfl) (by kernel_rfl)))
  unfold isSubtype
  refine leafb X4 99 [.o 0] _ _ [.ref (q.y.N + 2), .type "object"] S5 ht5 rfl (fun h6 tk6 S6 ht6 => ?_) (by kernel_rfl) (by kernel_rfl)
  refine wpAny_ite_false (by kernel_rfl) (wpAny_pure ?_)
  refine wpAny_ite_false (by simp) (wpAny_pure ?_)
  refine leaf X4 99 [.o 2, .o 2] _ _ (.again (.builtin "proto.slot" ⟨[.ref k, .ref (q.y.N + 3)], []⟩)) S6 ht6 rfl (fun h7 tk7 S7 ht7 => ?_) (by kernel_rfl) (by kernel_rfl)
  refine ⟨by kernel_rfl, go_e (b := PySem.Builtin.«proto.slot») (entryFor_of_tree (by kernel_rfl)) ?_⟩
  refine leaf X4 99 [.o 2, .o 2, .o 3, .o 0, .o 3] _ _ (.done (.ret (.str x t))) S7 ht7 rfl (fun h8 tk8 S8 ht8 => ?_) (by kernel_rfl) (by kernel_rfl)
  refine leaf X4 99 [] _ _ (.done (.ret (.str x t))) S8 ht8 rfl (fun h9 tk9 S9 ht9 => ?_) (by kernel_rfl) (by kernel_rfl)
  refine leaf X4 99 [] _ _ (.str x t) S9 ht9 rfl (fun h10 tk10 S10 ht10 => ?_) (by kernel_rfl) (by kernel_rfl)
  exact hQ h10 tk10 (S10.cast (by kernel_rfl) (by kernel_rfl))
noncomputable abbrev g4 (q : NK) (u : Tok) : List (Addr × Obj) := [oCls2 q u, oNs2 q, oMd q, (q.f0, nkFn q 0)]
noncomputable abbrev oDict (a : Addr) : Addr × Obj := (a, ⟨.type "dict", none, .dict #[] 0, #[]⟩)
noncomputable abbrev oInst (C a : Addr) : Addr × Obj := (a + 1, ⟨.ref C, some a, .plain, #[]⟩)
theorem kcall1 {y : KP} {q : NK} {u : Tok} {x : Str} {t : Tok} {A : Around} {R : Result → Shared → Prop} {s : Shared} {hs g : Heap} (X4 : (K4 y.w.params y.sl).In g) (S0 : Sat y.N hs g 0 (g4 q u) s.heap) (ht0 : s.toks = y.tk)
    (hI : ∀ h' tk', Sat y.N hs g 2 (g4 q u ++ [oDict y.N, oInst (q.y.N + 2) y.N]) h' → codeAny (model PySem.Challenge.rw_il0164_01.row.prog y.w) (A.under (.builtin "type.__call__" ⟨[.ref (q.y.N + 2), .str x t], []⟩)) (.call (.ref q.f0) ⟨[.ref (y.N + 1), .str x t], []⟩) (fun r s' => r = .ok (.ret .none) ∧ R (.ok (.ret (.ref (y.N + 1)))) s') { s with heap := h', toks := tk' }) :
    codeAny (model PySem.Challenge.rw_il0164_01.row.prog y.w) A (.call (.ref (q.y.N + 2)) ⟨[.str x t], []⟩) R s := by
  refine go_again X4 99 [.o 0, .o 0] (nst (g4 q u) 0 y.tk) _ (c' := .call (.builtin "type.__call__") ⟨[.ref (q.y.N + 2), .str x t], []⟩) S0 ht0 rfl (by kernel_rfl) (fun h1 tk1 S1 ht1 => ?_) (by kernel_rfl) (by kernel_rfl)
  refine go_again X4 99 [.o 0] _ _ (c' := .builtin "type.__call__" ⟨[.ref (q.y.N + 2), .str x t], []⟩) S1 ht1 rfl (by kernel_rfl) (fun h2 tk2 S2 ht2 => ?_) (by kernel_rfl) (by kernel_rfl)
  refine go_e (b := PySem.Builtin.«type.__call__») (entryFor_of_tree (by kernel_rfl)) ?_
  unfold PySem.Builtin.«type.__call__»
  refine wpAny_ite_false (by kernel_rfl) ?_
  refine leafb X4 99 [.o 0] _ _ [.ref (q.y.N + 2), .type "object"] S2 ht2 rfl (fun h3 tk3 S3 ht3 => ?_) (by kernel_rfl) (by kernel_rfl)
  refine wpAny_ite_false (by kernel_rfl) ?_
  refine leafb X4 99 [.o 0, .o 0] _ _ (some "object.__new__") S3 ht3 rfl (fun h4 tk4 S4 ht4 => ?_) (by kernel_rfl) (by kernel_rfl)
  refine wpAny_bind (wpAny_pure ?_)
  have r4 := S4.redo ht4 0 (g4 q u) y.tk (by kernel_rfl) (by kernel_rfl) (by kernel_rfl)
  replace S4 := r4.1
  replace ht4 := r4.2
  clear r4
  refine wpAny_bind (go_call X4 99 [] (nst (g4 q u) 0 y.tk) _ (.call (.builtin "object.__new__") ⟨[.ref (q.y.N + 2), .str x t], []⟩) S4 ht4 rfl (fun h5 tk5 S5 ht5 => ?_) (by kernel_rfl) (by kernel_rfl))
  refine go_again X4 99 [.o 0, .o 0, .o 0, .o 0, .o 0, .o 0, .o 0] _ _ (c' := .builtin "object.__new__" ⟨[.ref (q.y.N + 2), .str x t], []⟩) S5 ht5 rfl (by kernel_rfl) (fun h6 tk6 S6 ht6 => ?_) (by kernel_rfl) (by kernel_rfl)
  refine go_e (b := PySem.Builtin.«object.__new__») (entryFor_of_tree (by kernel_rfl)) ?_
  refine leaf X4 199 [.o 0, .o 0, .o 0, .o 0, .o 0, .o 0, .o 0, .o 0, .o 0, .o 0, .o 1, .o 0, .o 0] _ _ (.done (.ret (.ref (y.N + 1)))) S6 ht6 rfl (fun h7 tk7 S7 ht7 => ?_) (by kernel_rfl) (by kernel_rfl)
  refine leaf X4 99 [] _ _ (.ref (y.N + 1)) S7 ht7 rfl (fun h8 tk8 S8 ht8 => ?_) (by kernel_rfl) (by kernel_rfl)
  have r8 := S8.redo ht8 2 (g4 q u ++ [oDict y.N, oInst (q.y.N + 2) y.N]) y.tk (by kernel_rfl) (by kernel_rfl) (by kernel_rfl)
  replace S8 := r8.1
  replace ht8 := r8.2
  clear r8
  unfold isInstance
  refine wpAny_bind (wpAny_bind (leaf X4 99 [.o 5] (nst (g4 q u ++ [oDict y.N, oInst (q.y.N + 2) y.N]) 2 y.tk) _ (.ref (q.y.N + 2)) S8 ht8 rfl (fun h9 tk9 S9 ht9 => ?_) (by kernel_rfl) (by kernel_rfl)))
  unfold isSubtype
  refine leafb X4 99 [.o 0] _ _ [.ref (q.y.N + 2), .type "object"] S9 ht9 rfl (fun h10 tk10 S10 ht10 => ?_) (by kernel_rfl) (by kernel_rfl)
  refine wpAny_ite_false (by kernel_rfl) (wpAny_pure ?_)
  refine wpAny_ite_false (by simp) ?_
  have r10 := S10.redo ht10 2 (g4 q u ++ [oDict y.N, oInst (q.y.N + 2) y.N]) y.tk (by kernel_rfl) (by kernel_rfl) (by kernel_rfl)
  replace S10 := r10.1
  replace ht10 := r10.2
  clear r10
  refine wpAny_bind (go_call X4 99 [.o 5, .o 0, .o 0, .o 1, .o 3] (nst (g4 q u ++ [oDict y.N, oInst (q.y.N + 2) y.N]) 2 y.tk) _ (.call (.ref q.f0) ⟨[.ref (y.N + 1), .str x t], []⟩) S10 ht10 rfl (fun h11 tk11 S11 ht11 => ?_) (by kernel_rfl) (by kernel_rfl))
  have r11 := S11.redo ht11 2 (g4 q u ++ [oDict y.N, oInst (q.y.N + 2) y.N]) y.tk (by kernel_rfl) (by kernel_rfl) (by kernel_rfl)
  refine codeAny_mono (hI h11 tk11 r11.1) (fun r s' h => ?_)
  obtain ⟨rfl, h⟩ := h
  refine wpAny_of_eq (a := some .none) (by kernel_rfl) ?_
  exact wpAny_ite_false (by kernel_rfl) (wpAny_pure h)
noncomputable abbrev gi (q : NK) (u : Tok) (k d : Addr) : List (Addr × Obj) := [oCls2 q u, oNs2 q, oMd q, (k, ⟨.ref (q.y.N + 2), some d, .plain, #[]⟩)]
theorem setobj {y : KP} {q : NK} {u : Tok} {k d : Addr} {x : Str} {t : Tok} {A : Around} {E : Value → Shared → Prop} {s : Shared} {hs g : Heap} {Q : Unit → Shared → Prop} (X4 : (K4 y.w.params y.sl).In g) (S0 : Sat y.N hs g 0 (gi q u k d) s.heap) (ht0 : s.toks = y.tk)
    (hQ : ∀ h' tk', Sat y.N hs g 0 (gl q u k d (.str x t)) h' → Q () { s with heap := h', toks := tk' }) : wpAny (model PySem.Challenge.rw_il0164_01.row.prog y.w) A (setAttr (.ref k) (Str.ofString "obj") (.str x t)) Q E s := by
  refine go_call X4 99 [.o 3, .o 0, .o 0, .o 1] (nst (gi q u k d) 0 y.tk) _ (.call (.builtin "object.__setattr__") ⟨[.ref k, .str (Str.ofString "obj") y.tk, .str x t], []⟩) S0 ht0 rfl (fun h1 tk1 S1 ht1 => ?_) (by kernel_rfl) (by kernel_rfl)
  refine go_again X4 99 [.o 3, .o 0] _ _ (c' := .builtin "object.__setattr__" ⟨[.ref k, .str (Str.ofString "obj") y.tk, .str x t], []⟩) S1 ht1 rfl (by kernel_rfl) (fun h2 tk2 S2 ht2 => ?_) (by kernel_rfl) (by kernel_rfl)
  refine go_e (b := PySem.Builtin.«object.__setattr__») (entryFor_of_tree (by kernel_rfl)) ?_
  refine go_call X4 99 [.o 3, .o 0, .o 3, .o 0, .o 0, .o 1, .o 2, .o 2] _ _ (.call (.builtin "member_descriptor.__set__") ⟨[.ref (q.y.N + 3), .ref k, .str x t], []⟩) S2 ht2 rfl (fun h3 tk3 S3 ht3 => ?_) (by kernel_rfl) (by kernel_rfl)
  refine go_again X4 99 [.o 2] _ _ (c' := .builtin "member_descriptor.__set__" ⟨[.ref (q.y.N + 3), .ref k, .str x t], []⟩) S3 ht3 rfl (by kernel_rfl) (fun h4 tk4 S4 ht4 => ?_) (by kernel_rfl) (by kernel_rfl)
  refine go_e (b := PySem.Builtin.«member_descriptor.__set__») (entryFor_of_tree (by kernel_rfl)) ?_
  show wpAny _ _ (Builtin.Getset_descriptor.descrStoreThrough "member" (.ref (q.y.N + 3)) (.ref k) (some (.str x t))) _ _ _
  unfold Builtin.Getset_descriptor.descrStoreThrough
  refine wpAny_bind (m := Builtin.Getset_descriptor.descrCheckInstance (.ref (q.y.N + 3)) (.ref k)) ?_
  unfold Builtin.Getset_descriptor.descrCheckInstance
  refine leafb X4 99 [.o 2, .o 2] _ _ (Str.ofString "obj", .ref (q.y.N + 2)) S4 ht4 rfl (fun h5 tk5 S5 ht5 => ?_) (by kernel_rfl) (by kernel_rfl)
  unfold isInstance
  refine wpAny_bind (wpAny_bind (leaf X4 99 [.o 3] _ _ (.ref (q.y.N + 2)) S5 ht5 rfl (fun h6 tk6 S6 ht6 => ?_) (by kernel_rfl) (by kernel_rfl)))
  unfold isSubtype
  refine leafb X4 99 [.o 0] _ _ [.ref (q.y.N + 2), .type "object"] S6 ht6 rfl (fun h7 tk7 S7 ht7 => ?_) (by kernel_rfl) (by kernel_rfl)
  refine wpAny_ite_false (by kernel_rfl) (wpAny_pure ?_)
  refine wpAny_ite_false (by simp) (wpAny_pure ?_)
  refine leaf X4 99 [.o 2, .o 2] _ _ (.again (.builtin "proto.slot#set" ⟨[.ref k, .str x t, .ref (q.y.N + 3)], []⟩)) S7 ht7 rfl (fun h8 tk8 S8 ht8 => ?_) (by kernel_rfl) (by kernel_rfl)
  refine ⟨by kernel_rfl, go_e (b := PySem.Builtin.«proto.slot#set») (entryFor_of_tree (by kernel_rfl)) ?_⟩
  refine leaf X4 99 [.o 2, .o 2, .o 3, .o 0, .o 3] _ _ (.done (.ret .none)) S8 ht8 rfl (fun h9 tk9 S9 ht9 => ?_) (by kernel_rfl) (by kernel_rfl)
  refine leaf X4 99 [] _ _ (.done (.ret .none)) S9 ht9 rfl (fun h10 tk10 S10 ht10 => ?_) (by kernel_rfl) (by kernel_rfl)
  refine leaf X4 99 [] _ _ () S10 ht10 rfl (fun h11 tk11 S11 ht11 => ?_) (by kernel_rfl) (by kernel_rfl)
  exact hQ h11 tk11 (S11.cast (by kernel_rfl) (by kernel_rfl))
theorem x4_of {w : World} {p : Program} {loose : List Str} {mean : ExcName → Option Value} {mg mb : Str → Option Value} {g : Heap} (X : (hd.heap_39 w.params).In g) (T : Top p loose mean mg mb g) : ∃ sl, (K4 w.params sl).In g := by
  have e5 : mg "__builtins__" = some (.ref 4) := mg_of X T.g (by kernel_rfl)
  obtain ⟨bm, ob, b1, b2, b3, b4, b5, b6⟩ := T.bmain
  rw [e5] at b1
  cases b1
  obtain ⟨oc, od, odat, sl⟩ := ob
  dsimp only at b4 b5 b6
  subst b4 b5 b6
  refine ⟨sl, ?_⟩
  intro a o ha
  rw [List.lookup_cons] at ha
  split at ha
  · rename_i q; cases ha; rw [eq_of_beq q]; exact b3
  · exact X _ _ ha
theorem Sat.same {N : Nat} {hs g h' : Heap} {own : List (Addr × Obj)} (hm : ∀ p ∈ own, hs.get? p.1 = some p.2) (S : Sat N hs g 0 own h') : ∀ b o, hs.get? b = some o → h'.get? b = some o := fun b o e => by
  by_cases hb : b ∈ own.map (·.1)
  · obtain ⟨p, hp, rfl⟩ := List.mem_map.mp hb
    rw [hm p hp] at e
    cases e
    exact S.mine p hp
  · exact S.keep b o hb e
theorem Sat.led {g h : Heap} {L : Addr} {own : List (Addr × Obj)} {m : Str → Option Value} {news : List (Addr × Obj)} (F : Fr g L h m) (N : News g L h news) (hs : ∀ p ∈ own, p ∈ news) (nd : (own.map (·.1)).Nodup) : Sat h.objs.size h g 0 own h := Sat.start F (fun p hp => N p (hs p hp)) nd
theorem getobj_led {w : World} {q : NK} {u : Tok} {k d : Addr} {x : Str} {t : Tok} {A : Around} {E : Value → Shared → Prop} {s : Shared} {h₀ : Heap} {L : Addr} {m : Str → Option Value} {news : List (Addr × Obj)} {p : Program} {loose : List Str} {mean : ExcName → Option Value} {mg mb : Str → Option Value} {Q : Value → Shared → Prop}
    (F : Fr h₀ L s.heap m) (X : (hd.heap_39 w.params).In h₀) (N : News h₀ L s.heap news) (T : Top p loose mean mg mb h₀) (hm : ∀ p ∈ gl q u k d (.str x t), p ∈ news) (nd : ((gl q u k d (.str x t)).map (·.1)).Nodup)
    (hQ : ∀ h' tk', Fr h₀ L h' m → News h₀ L h' news → Q (.str x t) { s with heap := h', toks := tk' }) : wpAny (model PySem.Challenge.rw_il0164_01.row.prog w) A (getAttr (.ref k) (Str.ofString "obj") true) Q E s := by
  obtain ⟨sl, X4⟩ := x4_of X T
  refine getobj (y := ⟨w, sl, s.heap.objs.size, 0, s.toks, .none, none, #[]⟩) X4 (Sat.led F N hm nd) rfl fun h' tk' S' => ?_
  have keep := Sat.same (fun p hp => (N p (hm p hp)).1) S'
  exact hQ h' tk' (F.kept keep) (N.grown keep)
theorem setobj_led {w : World} {q : NK} {u : Tok} {k d : Addr} {x : Str} {t : Tok} {A : Around} {E : Value → Shared → Prop} {s : Shared} {h₀ : Heap} {L : Addr} {m : Str → Option Value} {rest : List (Addr × Obj)} {p : Program} {loose : List Str} {mean : ExcName → Option Value} {mg mb : Str → Option Value} {Q : Unit → Shared → Prop}
    (F : Fr h₀ L s.heap m) (X : (hd.heap_39 w.params).In h₀) (N : News h₀ L s.heap ((k, ⟨.ref (q.y.N + 2), some d, .plain, #[]⟩) :: rest)) (T : Top p loose mean mg mb h₀) (hm : ∀ p ∈ [oCls2 q u, oNs2 q, oMd q], p ∈ rest) (nd : ([q.y.N + 2, q.y.N + 1, q.y.N + 3, k] : List Nat).Nodup) (hk : ∀ p ∈ rest, p.1 ≠ k)
    (hQ : ∀ h' tk', Fr h₀ L h' m → News h₀ L h' ((k, kInst (q.y.N + 2) d (.str x t)) :: rest) → Q () { s with heap := h', toks := tk' }) : wpAny (model PySem.Challenge.rw_il0164_01.row.prog w) A (setAttr (.ref k) (Str.ofString "obj") (.str x t)) Q E s := by
  obtain ⟨sl, X4⟩ := x4_of X T
  have hin : ∀ p ∈ gi q u k d, p ∈ (k, (⟨.ref (q.y.N + 2), some d, .plain, #[]⟩ : Obj)) :: rest := fun p hp => by
    simp only [List.mem_cons, List.not_mem_nil, or_false] at hp
    rcases hp with rfl | rfl | rfl | rfl
    · exact .tail _ (hm _ (.head _))
    · exact .tail _ (hm _ (.tail _ (.head _)))
    · exact .tail _ (hm _ (.tail _ (.tail _ (.head _))))
    · exact .head _
  refine setobj (y := ⟨w, sl, s.heap.objs.size, 0, s.toks, .none, none, #[]⟩) X4 (Sat.led F N hin nd) rfl fun h' tk' S' => ?_
  have keep : ∀ b o, b ≠ k → s.heap.get? b = some o → h'.get? b = some o := fun b o hb e => by
    by_cases hb2 : b ∈ (gl q u k d (.str x t)).map (·.1)
    · obtain ⟨p, hp, rfl⟩ := List.mem_map.mp hb2
      simp only [List.mem_cons, List.not_mem_nil, or_false] at hp
      rcases hp with rfl | rfl | rfl | rfl
      · have := (N _ (hin _ (.head _))).1
        rw [this] at e; cases e
        exact S'.mine _ (.head _)
      · have := (N _ (hin _ (.tail _ (.head _)))).1
        rw [this] at e; cases e
        exact S'.mine _ (.tail _ (.head _))
      · have := (N _ (hin _ (.tail _ (.tail _ (.head _))))).1
        rw [this] at e; cases e
        exact S'.mine _ (.tail _ (.tail _ (.head _)))
      · exact absurd rfl hb
    · exact S'.keep b o hb2 e
  have hkn := N _ (.head _)
  refine hQ h' tk' ⟨F.ns.at' fun o e => keep L o (fun q => hkn.2.1 q.symm) e, S'.old, F.above⟩ fun p hp => ?_
  rcases List.mem_cons.mp hp with rfl | hp
  · exact ⟨S'.mine _ (.tail _ (.tail _ (.tail _ (.head _)))), hkn.2⟩
  · exact ⟨keep _ _ (hk p hp) (N p (.tail _ hp)).1, (N p (.tail _ hp)).2⟩
end
-- Klt
section
noncomputable def fdOfO (o : Obj) (i : Nat) : Str × Arguments × List Stmt × Scope := match o with
  | ⟨_, _, .func fd, _⟩ => match fd.body with
    | .stmts (.ClassDef _ _ _ b .. :: _) => match b[i]? with
      | some (.FunctionDef a b c _ _ _ d ..) => (a, b, c, d)
      | _ => default
    | _ => default
  | _ => default
theorem fdOf_ok (p : Params) : (match (hd.heap_39 p).lookup 130 with | some o => [fdOf p 2, fdOf p 3] = [fdOfO o 2, fdOfO o 3] | none => False) := by
  show [fdOf p 2, fdOf p 3] = _
  kernel_rfl
theorem fd_via {w : World} {o : Obj} (P : (Str × Arguments × List Stmt × Scope) → Prop) (h : (hd.heap_39 w.params).lookup 130 = some o) (hp : P (fdOfO o 2)) : P (fdOf w.params 2) := by
  have e := fdOf_ok w.params
  rw [h] at e
  simp only [List.cons.injEq, and_true] at e
  rw [e.1]; exact hp
theorem fd_via3 {w : World} {o : Obj} (P : (Str × Arguments × List Stmt × Scope) → Prop) (h : (hd.heap_39 w.params).lookup 130 = some o) (hp : P (fdOfO o 3)) : P (fdOf w.params 3) := by
  have e := fdOf_ok w.params
  rw [h] at e
  simp only [List.cons.injEq, and_true] at e
  rw [e.2]; exact hp
noncomputable abbrev fxF (fx : Str × Arguments × List Stmt × Scope) (cl : List (Str × Addr)) (c : Addr) (ct : Value) : Obj := ⟨.type "function", none, .func (fnX fx.1 (Str.ofString "cmp_to_key.<locals>.K." ++ fx.1) fx.2.1 fx.2.2.1 fx.2.2.2 cl .none .none .none (.str (Str.ofString "law_il0164_01") 1970) none (.ref c) ct), #[]⟩
def KInit (w : World) (fx : Str × Arguments × List Stmt × Scope) : Prop :=
  ∀ (p : Program) (loose : List Str) (mean : ExcName → Option Value) (mg mb : Str → Option Value) (dp un : Nat) (gd : Option (List Code)) (cn : Str) (cs : Scope) (a : Addr) (ccd : Value) (cl : List (Str × Addr)) (outer : List Env) (A₀ : Around) (base h₀ : Heap) (L : Addr) (m : Str → Option Value) (rest : List (Addr × Obj)) (s : Shared) (R : Result → Shared → Prop)
    (q : NK) (u : Tok) (k d c0 : Addr) (x : Str) (t t' t'' : Tok) (r : List Value),
    Below A₀ base outer h₀ → Fr h₀ L s.heap m → (hd.heap_39 w.params).In h₀ → News h₀ L s.heap ((k, ⟨.ref (q.y.N + 2), some d, .plain, #[]⟩) :: rest) → Top p loose mean mg mb h₀ → cs.kind = .function →
    dp + 4 < recursionLimit → un + 40 < cLine → (∀ p ∈ [oCls2 q u, oNs2 q, oMd q], p ∈ rest) → (q.f0, fxF fx [] c0 .none) ∈ rest → oCode c0 (.str fx.1 t' :: .str (Str.ofString "cmp_to_key.<locals>.K." ++ fx.1) t'' :: r) ∈ rest →
    ([q.y.N + 2, q.y.N + 1, q.y.N + 3, k] : List Nat).Nodup → (∀ p ∈ rest, p.1 ≠ k) →
    (∀ h' tk', Fr h₀ L h' m → News h₀ L h' ((k, kInst (q.y.N + 2) d (.str x t)) :: rest) → R (.ok (.ret .none)) { s with heap := h', toks := tk' }) →
    codeAny (model PySem.Challenge.rw_il0164_01.row.prog w) (ktrTop dp un gd cn cs L a ccd cl outer) (.call (.ref q.f0) ⟨[.ref k, .str x t], []⟩) R s
theorem kinit (w : World) : KInit w (fdOf w.params 2) := by
  unfold KInit
  k_fill
  show KInit w (fdOf w.params 2)
  refine fd_via (KInit w) (by k_is) ?_
  unfold KInit
  dsimp only [fdOfO, List.getElem?_cons_succ, List.getElem?_cons_zero]
  intro p loose mean mg mb dp un gd cn cs a ccd cl outer A₀ base h₀ L m rest s R q u k d c0 x t t' t'' r B F X N T hk hd hu hm hf hc nd hne hret
  refine callX_plain (cl := []) (binds := [(Str.ofString "self", .ref k), (Str.ofString "obj", .str x t)]) B F N T.nolimit rfl rfl hk (N _ (.tail _ hf)).1 rfl ⟨_, _, _, t'', rfl, (N _ (.tail _ hc)).1, rfl, rfl⟩ ?room ?bind ?loc ?_ ?hcell
  case room => ktr_room
  case bind => exact BindsTo.of_eq rfl
  case loc => exact locs rfl
  case hcell => decide
  intro g L' h1 FG F1 N1 B1 st l1
  have X1 := X.keeps st
  have T1 := T.keeps st
  dsimp only
  k_steps
  refine setobj_led F1 X1 N1 T1 hm nd hne ?_
  intro h' tk' F2 N2
  dsimp only
  k_steps
  refine hret _ _ ?F ?N
  case F => k_asm
  case N => k_asm
def KLt (w : World) (fx : Str × Arguments × List Stmt × Scope) : Prop :=
  ∀ (p : Program) (loose : List Str) (mean : ExcName → Option Value) (mg mb : Str → Option Value) (dp un : Nat) (gd : Option (List Code)) (cn : Str) (cs : Scope) (a : Addr) (ccd : Value) (cl : List (Str × Addr)) (outer : List Env) (A₀ : Around) (base h₀ : Heap) (L : Addr) (m : Str → Option Value) (rest : List (Addr × Obj)) (s : Shared) (R : Result → Shared → Prop)
    (q : NK) (u : Tok) (k1 d1 k2 d2 c1 cell : Addr) (co : Obj) (ct : Value) (x y : Str) (tx ty t' t'' : Tok) (r : List Value),
    Below A₀ base outer h₀ → Fr h₀ L s.heap m → (hd.heap_39 w.params).In h₀ → News h₀ L s.heap rest → Top p loose mean mg mb h₀ → cs.kind = .function →
    dp + 10 < recursionLimit → un + 80 < cLine → (q.f1, fxF fx [(Str.ofString "mycmp", cell)] c1 ct) ∈ rest → oCode c1 (.str fx.1 t' :: .str (Str.ofString "cmp_to_key.<locals>.K." ++ fx.1) t'' :: r) ∈ rest → (cell, co) ∈ rest → co.data = .cell (some (.ref 146)) →
    (∀ p ∈ gl q u k1 d1 (.str x tx), p ∈ rest) → (∀ p ∈ gl q u k2 d2 (.str y ty), p ∈ rest) → ([q.y.N + 2, q.y.N + 1, q.y.N + 3, k1] : List Nat).Nodup → ([q.y.N + 2, q.y.N + 1, q.y.N + 3, k2] : List Nat).Nodup → x.length ≤ 1000000 → y.length ≤ 1000000 →
    (∀ b h' tk', (b = true → x.length ≤ y.length) → (b = false → y.length ≤ x.length) → Fr h₀ L h' m → News h₀ L h' rest → R (.ok (.ret (.bool b))) { s with heap := h', toks := tk' }) →
    codeAny (model PySem.Challenge.rw_il0164_01.row.prog w) (ktrTop dp un gd cn cs L a ccd cl outer) (.call (.ref q.f1) ⟨[.ref k1, .ref k2], []⟩) R s
theorem cmpInt_lt {x y : Str} (h : cmpInt x y < 0) : x.length ≤ y.length := by
  unfold cmpInt at h
  split at h <;> omega
theorem cmpInt_ge {x y : Str} (h : ¬ cmpInt x y < 0) : y.length ≤ x.length := by
  unfold cmpInt at h
  split at h <;> omega
theorem klt (w : World) : KLt w (fdOf w.params 3) := by
  unfold KLt
  k_fill
  show KLt w (fdOf w.params 3)
  refine fd_via3 (KLt w) (by k_is) ?_
  unfold KLt
  dsimp only [fdOfO, List.getElem?_cons_succ, List.getElem?_cons_zero]
  intro p loose mean mg mb dp un gd cn cs a ccd cl outer A₀ base h₀ L m rest s R q u k1 d1 k2 d2 c1 cell co ct x y tx ty t' t'' r B F X N T hk hd hu hf hc hcell hco hm1 hm2 nd1 nd2 hx hy hret
  refine callX_plain (cl := [(Str.ofString "mycmp", cell)]) (binds := [(Str.ofString "self", .ref k1), (Str.ofString "other", .ref k2)]) B F N T.nolimit rfl rfl hk (N _ hf).1 rfl ⟨_, _, _, t'', rfl, (N _ hc).1, rfl, rfl⟩ ?room ?bind ?loc ?_ ?hcl
  case room => ktr_room
  case bind => exact BindsTo.of_eq rfl
  case loc => exact locs rfl
  case hcl => decide
  intro g L' h1 FG F1 N1 B1 st l1
  have X1 := X.keeps st
  have T1 := T.keeps st
  dsimp only
  iterate 4 (any_goals (walk_at "ONE"))
  refine nameX_F N1 rfl hcell hco ?_ rfl rfl (by decide) (by decide)
  k_steps
  refine getobj_led F1 X1 N1 T1 hm1 nd1 ?_
  intro h2 tk2 F2 N2
  dsimp only
  k_steps
  refine getobj_led F2 X1 N2 T1 hm2 nd2 ?_
  intro h3 tk3 F3 N3
  dsimp only
  repeat' (first | ((with_reducible show wpAny _ _ (call (Value.ref 146) _ _) _ _ _); refine use_call (lawcmp _ _ _ _ hx hy) (by k_asm) (by k_asm) (by k_asm) (by k_asm) (by k_asm) (by first | exact rfl | assumption) (by ktr_room) (by ktr_units) ?_; intro ix it ih itk iP iF iN; (subst iP); (try dsimp only); (try k_fold)) | walk_at "ONE")
  all_goals (refine hret _ _ _ (fun hb => cmpInt_lt (of_decide_eq_true hb)) (fun hb => cmpInt_ge (of_decide_eq_false hb)) ?_ ?_)
  all_goals k_asm
end
-- Kuse
section
structure KLed (w : World) (q : NK) (u : Tok) (c0 c1 cell : Addr) (v0 v1 : List Value) (co : Obj) (news : List (Addr × Obj)) : Prop where
  ok : KOk w cell q c0 c1 v0 v1
  hco : co.data = .cell (some (.ref 146))
  cellIn : (cell, co) ∈ news
  sub : ∀ p ∈ kls q u c0 c1 v0 v1, p ∈ news
  nd : ((kls q u c0 c1 v0 v1).map (·.1)).Nodup
theorem news_uniq {h₀ h : Heap} {L a : Addr} {news : List (Addr × Obj)} {o o' : Obj} (N : News h₀ L h news) (h1 : (a, o) ∈ news) (h2 : (a, o') ∈ news) : o = o' := by
  have e1 := (N _ h1).1
  have e2 := (N _ h2).1
  rw [e1] at e2
  exact Option.some.inj e2
theorem inst_ne {h₀ h : Heap} {L a k : Addr} {news : List (Addr × Obj)} {o : Obj} {C d : Addr} {v : Value} (N : News h₀ L h news) (h1 : (k, kInst C d v) ∈ news) (h2 : (a, o) ∈ news) (hc : ∀ C, o.cls ≠ .ref C) : a ≠ k := fun e => by
  subst e
  have := news_uniq N h1 h2
  subst this
  exact hc _ rfl
section
variable {w : World} {q : NK} {u : Tok} {c0 c1 cell : Addr} {v0 v1 : List Value} {co : Obj} {p : Program} {loose : List Str} {mean : ExcName → Option Value} {mg mb : Str → Option Value} {dp un : Nat} {gd : Option (List Code)} {cn : Str} {cs : Scope} {a : Addr} {ccd : Value} {cl : List (Str × Addr)} {outer : List Env} {A₀ : Around} {base h₀ : Heap} {L : Addr} {m : Str → Option Value} {news : List (Addr × Obj)} {s : Shared} {E : Value → Shared → Prop}
theorem kls_nd {k : Addr} {d : Addr} {v : Value} (K : KLed w q u c0 c1 cell v0 v1 co news) (N : News h₀ L s.heap news) (h1 : (k, kInst (q.y.N + 2) d v) ∈ news) : ([q.y.N + 2, q.y.N + 1, q.y.N + 3, k] : List Nat).Nodup := by
  have e1 : q.y.N + 2 ≠ k := inst_ne N h1 (K.sub _ (.head _)) (by intro C h; cases h)
  have e2 : q.y.N + 1 ≠ k := inst_ne N h1 (K.sub _ (.tail _ (.head _))) (by intro C h; cases h)
  have e3 : q.y.N + 3 ≠ k := inst_ne N h1 (K.sub _ (.tail _ (.tail _ (.head _)))) (by intro C h; cases h)
  simp only [List.nodup_cons, List.mem_cons, List.not_mem_nil, or_false, not_or, not_false_eq_true, List.nodup_nil, and_true]
  exact ⟨⟨by omega, by omega, e1⟩, ⟨by omega, e2⟩, e3⟩
theorem kcmp {k1 d1 k2 d2 : Addr} {x y : Str} {tx ty : Tok} {Q : Bool → Shared → Prop} (K : KLed w q u c0 c1 cell v0 v1 co news)
    (B : Below A₀ base outer h₀) (F : Fr h₀ L s.heap m) (X : (hd.heap_39 w.params).In h₀) (N : News h₀ L s.heap news) (T : Top p loose mean mg mb h₀) (hk : cs.kind = .function) (hd : dp + 10 < recursionLimit) (hu : un + 80 < cLine)
    (h1 : (k1, kInst (q.y.N + 2) d1 (.str x tx)) ∈ news) (h2 : (k2, kInst (q.y.N + 2) d2 (.str y ty)) ∈ news) (hx : x.length ≤ 1000000) (hy : y.length ≤ 1000000)
    (hQ : ∀ b h' tk', (b = true → x.length ≤ y.length) → (b = false → y.length ≤ x.length) → Fr h₀ L h' m → News h₀ L h' news → Q b { s with heap := h', toks := tk' }) :
    wpAny (model PySem.Challenge.rw_il0164_01.row.prog w) (ktrTop dp un gd cn cs L a ccd cl outer) (keyLt' oneType' (.ref k1) (.ref k2)) Q E s := by
  rw [keyLt'_oneType, oneLt'_eq]
  simp only [if_true]
  refine wpAny_bind (wpAny_cRoomFor (by show un < cLine; omega) ?_)
  obtain ⟨sl, X4⟩ := x4_of X T
  obtain ⟨t1, t2, r1, e1⟩ := K.ok.v1
  obtain ⟨ct, e2⟩ := K.ok.fd1
  have nd1 := kls_nd K N h1
  have nd2 := kls_nd K N h2
  have hf : (q.f1, fxF (fdOf w.params 3) [(Str.ofString "mycmp", cell)] c1 ct) ∈ news := by
    have := K.sub (q.f1, nkFn q 1) (.tail _ (.tail _ (.tail _ (.tail _ (.head _)))))
    rw [show nkFn q 1 = fxF (fdOf w.params 3) [(Str.ofString "mycmp", cell)] c1 ct by show (⟨_, _, .func (q.fd 1), _⟩ : Obj) = _; rw [e2]] at this
    exact this
  have hc : oCode c1 (.str (fdOf w.params 3).1 t1 :: .str (Str.ofString "cmp_to_key.<locals>.K." ++ (fdOf w.params 3).1) t2 :: r1) ∈ news := by
    rw [← e1]; exact K.sub _ (.tail _ (.tail _ (.tail _ (.tail _ (.tail _ (.tail _ (.head _)))))))
  have ef : q.f1 ≠ k1 := inst_ne N h1 hf (by intro C h; cases h)
  have hsub : ∀ p ∈ [oCls2 q u, oNs2 q, (q.f1, nkFn q 1), (k1, kInst (q.y.N + 2) d1 (.str x tx))], p ∈ news := fun p hp => by
    simp only [List.mem_cons, List.not_mem_nil, or_false] at hp
    rcases hp with rfl | rfl | rfl | rfl
    · exact K.sub _ (.head _)
    · exact K.sub _ (.tail _ (.head _))
    · exact K.sub _ (.tail _ (.tail _ (.tail _ (.tail _ (.head _)))))
    · exact h1
  have nd : ([oCls2 q u, oNs2 q, (q.f1, nkFn q 1), (k1, kInst (q.y.N + 2) d1 (.str x tx))].map (·.1)).Nodup := by
    have n0 := K.nd
    simp only [List.map_cons, List.map_nil, List.nodup_cons, List.mem_cons, List.not_mem_nil, or_false, not_or] at n0 nd1 ⊢
    exact ⟨⟨n0.1.1, n0.1.2.2.2.1, nd1.1.2.2⟩, ⟨n0.2.1.2.2.1, nd1.2.1.2⟩, ef, not_false, List.nodup_nil⟩
  have S := Sat.led F N hsub nd
  have fin : ∀ h3 tk3, Sat s.heap.objs.size s.heap h₀ 0 [oCls2 q u, oNs2 q, (q.f1, nkFn q 1), (k1, kInst (q.y.N + 2) d1 (.str x tx))] h3 → wpAny (model PySem.Challenge.rw_il0164_01.row.prog w) (ktrTop dp un gd cn cs L a ccd cl outer) (call (.ref q.f1) ([.ref k1] ++ [.ref k2]) >>= fun v => pure (some v)) (fun r s' => wpAny (model PySem.Challenge.rw_il0164_01.row.prog w) (ktrTop dp un gd cn cs L a ccd cl outer) (match r with | some .notImplemented | none => do rule "list.sort.lt-declined"; truthOfDropped (← richCompare .Lt (.ref k1) (.ref k2)) | some r => return ← truthOfDropped r) Q E s') E { s with heap := h3, toks := tk3 } := ?fin
  simp only [callSpecialIfBound?, bindSpecialIfBound?]
  refine wpAny_bind (wpAny_holding (wpAny_bind (wpAny_bind (leaf (y := ⟨w, sl, s.heap.objs.size, 0, s.toks, .none, none, #[]⟩) X4 99 [.o 3, .o 0, .o 0, .o 1] (nst [oCls2 q u, oNs2 q, (q.f1, nkFn q 1), (k1, kInst (q.y.N + 2) d1 (.str x tx))] 0 s.toks) _ (some (.ref q.f1)) S rfl rfl (fun h3 tk3 S3 ht3 => ?_) (by kernel_rfl) (by kernel_rfl)))))
  refine wpAny_bind (wpAny_askSetting (wpAny_ite ?_))
  have step : wpAny (model PySem.Challenge.rw_il0164_01.row.prog w) (ktrTop dp un gd cn cs L a ccd cl outer) (bindSpecial (.ref q.f1) (.ref k1)) (fun r s' => r = (.ref q.f1, [.ref k1]) ∧ ∃ h3 tk3, s' = { s with heap := h3, toks := tk3 } ∧ Sat s.heap.objs.size s.heap h₀ 0 [oCls2 q u, oNs2 q, (q.f1, nkFn q 1), (k1, kInst (q.y.N + 2) d1 (.str x tx))] h3) (fun _ _ => False) { s with heap := h3, toks := tk3 } := by
    refine leaf (y := ⟨w, sl, s.heap.objs.size, 0, s.toks, .none, none, #[]⟩) X4 99 [.o 2] _ _ (.ref q.f1, [.ref k1]) S3 ht3 rfl (fun h4 tk4 S4 ht4 => ⟨rfl, h4, tk4, rfl, S4.cast (by kernel_rfl) (by kernel_rfl)⟩) (by kernel_rfl) (by kernel_rfl)
  split
  · refine wpAny_bind (wpAny_mono step ?_ fun _ _ e => e.elim)
    rintro r s' ⟨rfl, h4, tk4, rfl, S4⟩
    exact wpAny_pure (fin h4 tk4 S4)
  · refine wpAny_tryCatch (wpAny_bind (wpAny_mono step ?_ fun _ _ e => e.elim))
    rintro r s' ⟨rfl, h4, tk4, rfl, S4⟩
    exact wpAny_pure (fin h4 tk4 S4)
  case fin =>
  intro h3 tk3 S3'
  have keep := Sat.same (fun p hp => (N p (hsub p hp)).1) S3'
  refine wpAny_bind (wpAny_call ?_)
  refine klt w p loose mean mg mb dp un gd cn cs a ccd cl outer A₀ base h₀ L m news _ _ q u k1 d1 k2 d2 c1 cell co ct x y tx ty t1 t2 r1 B (F.kept keep) X (N.grown keep) T hk hd hu hf hc K.cellIn K.hco ?m1 ?m2 nd1 nd2 hx hy ?_
  case m1 =>
    intro p hp
    simp only [List.mem_cons, List.not_mem_nil, or_false] at hp
    rcases hp with rfl | rfl | rfl | rfl
    · exact K.sub _ (.head _)
    · exact K.sub _ (.tail _ (.head _))
    · exact K.sub _ (.tail _ (.tail _ (.head _)))
    · exact h1
  case m2 =>
    intro p hp
    simp only [List.mem_cons, List.not_mem_nil, or_false] at hp
    rcases hp with rfl | rfl | rfl | rfl
    · exact K.sub _ (.head _)
    · exact K.sub _ (.tail _ (.head _))
    · exact K.sub _ (.tail _ (.tail _ (.head _)))
    · exact h2
  intro b h' tk' p1 p2 F' N'
  refine wpAny_pure ?_
  exact wpAny_truthy_bool (hQ b h' tk' p1 p2 F' N')
end
theorem Sat.same2 {N c : Nat} {hs g h' : Heap} {own new : List (Addr × Obj)} (hm : ∀ p ∈ own, hs.get? p.1 = some p.2) (S : Sat N hs g c (own ++ new) h') (hnew : ∀ p ∈ new, @LE.le Nat _ hs.objs.size p.1) : ∀ b o, hs.get? b = some o → h'.get? b = some o := fun b o e => by
  by_cases hb : b ∈ (own ++ new).map (·.1)
  · obtain ⟨p, hp, rfl⟩ := List.mem_map.mp hb
    rcases List.mem_append.mp hp with h | h
    · rw [hm p h] at e
      cases e
      exact S.mine p hp
    · exact absurd (Heap.lt_size e) (Nat.not_lt.mpr (hnew p h))
  · exact S.keep b o hb e
theorem under_tc {dp un : Nat} {gd : Option (List Code)} {cn : Str} {cs : Scope} {L a : Addr} {ccd : Value} {cl : List (Str × Addr)} {outer : List Env} {C : Addr} {x : Str} {t : Tok} : (ktrTop dp un gd cn cs L a ccd cl outer).under (.builtin "type.__call__" ⟨[.ref C, .str x t], []⟩) = ktrTop (dp + 1) (un + 1) (pushGuards (Code.builtin "type.__call__" ⟨[.ref C, .str x t], []⟩).guards gd) cn cs L a ccd cl outer := by
  have e1 : (Code.builtin "type.__call__" ⟨[.ref C, .str x t], []⟩).weight = 1 := by kernel_rfl
  have e2 : (Code.builtin "type.__call__" ⟨[.ref C, .str x t], []⟩).cUnits = 1 := by kernel_rfl
  have e3 : (Code.builtin "type.__call__" ⟨[.ref C, .str x t], []⟩).envs = [] := by kernel_rfl
  unfold Around.under
  rw [e1, e2, e3]
  rfl
section
variable {w : World} {q : NK} {u : Tok} {c0 c1 cell : Addr} {v0 v1 : List Value} {co : Obj} {p : Program} {loose : List Str} {mean : ExcName → Option Value} {mg mb : Str → Option Value} {dp un : Nat} {gd : Option (List Code)} {cn : Str} {cs : Scope} {a : Addr} {ccd : Value} {cl : List (Str × Addr)} {outer : List Env} {A₀ : Around} {base h₀ : Heap} {L : Addr} {m : Str → Option Value} {news : List (Addr × Obj)} {s : Shared} {E : Value → Shared → Prop}
theorem knew {x : Str} {t : Tok} {Q : Value → Shared → Prop} (K : KLed w q u c0 c1 cell v0 v1 co news)
    (B : Below A₀ base outer h₀) (F : Fr h₀ L s.heap m) (X : (hd.heap_39 w.params).In h₀) (N : News h₀ L s.heap news) (T : Top p loose mean mg mb h₀) (hk : cs.kind = .function) (hd : dp + 10 < recursionLimit) (hu : un + 80 < cLine)
    (hQ : ∀ k d h' tk', (∀ p ∈ news, p.1 ≠ k) → Fr h₀ L h' m → News h₀ L h' ((k, kInst (q.y.N + 2) d (.str x t)) :: news) → Q (.ref k) { s with heap := h', toks := tk' }) :
    wpAny (model PySem.Challenge.rw_il0164_01.row.prog w) (ktrTop dp un gd cn cs L a ccd cl outer) (call (.ref (q.y.N + 2)) [.str x t]) Q E s := by
  obtain ⟨sl, X4⟩ := x4_of X T
  obtain ⟨t1, t2, r1, e1⟩ := K.ok.v0
  have hsub : ∀ p ∈ g4 q u, p ∈ news := fun p hp => by
    simp only [List.mem_cons, List.not_mem_nil, or_false] at hp
    rcases hp with rfl | rfl | rfl | rfl
    · exact K.sub _ (.head _)
    · exact K.sub _ (.tail _ (.head _))
    · exact K.sub _ (.tail _ (.tail _ (.head _)))
    · exact K.sub _ (.tail _ (.tail _ (.tail _ (.head _))))
  have nd : ((g4 q u).map (·.1)).Nodup := by
    have n0 := K.nd
    simp only [List.map_cons, List.map_nil, List.nodup_cons, List.mem_cons, List.not_mem_nil, or_false, not_or] at n0 ⊢
    exact ⟨⟨n0.1.1, n0.1.2.1, n0.1.2.2.1⟩, ⟨n0.2.1.1, n0.2.1.2.1⟩, n0.2.2.1.1, not_false, List.nodup_nil⟩
  have hf : (q.f0, fxF (fdOf w.params 2) [] c0 .none) ∈ news := by
    have := K.sub (q.f0, nkFn q 0) (.tail _ (.tail _ (.tail _ (.head _))))
    rw [show nkFn q 0 = fxF (fdOf w.params 2) [] c0 .none by show (⟨_, _, .func (q.fd 0), _⟩ : Obj) = _; rw [K.ok.fd0]] at this
    exact this
  have hc : oCode c0 (.str (fdOf w.params 2).1 t1 :: .str (Str.ofString "cmp_to_key.<locals>.K." ++ (fdOf w.params 2).1) t2 :: r1) ∈ news := by
    rw [← e1]; exact K.sub _ (.tail _ (.tail _ (.tail _ (.tail _ (.tail _ (.head _))))))
  have hLs := F.ns.lt
  refine wpAny_call (kcall1 (y := ⟨w, sl, s.heap.objs.size, 0, s.toks, .none, none, #[]⟩) X4 (Sat.led F N hsub nd) rfl ?_)
  intro h' tk' S'
  dsimp only at S'
  have hnew : ∀ p ∈ [oDict s.heap.objs.size, oInst (q.y.N + 2) s.heap.objs.size], @LE.le Nat _ s.heap.objs.size p.1 := fun p hp => by
    simp only [List.mem_cons, List.not_mem_nil, or_false] at hp
    rcases hp with rfl | rfl
    · exact Nat.le_refl _
    · exact Nat.le_succ _
  have keep := Sat.same2 (fun p hp => (N p (hsub p hp)).1) S' hnew
  have hi : h'.get? (s.heap.objs.size + 1) = some ⟨.ref (q.y.N + 2), some s.heap.objs.size, .plain, #[]⟩ := S'.mine (oInst (q.y.N + 2) s.heap.objs.size) (List.mem_append_right _ (.tail _ (.head _)))
  have hin : h₀.get? (s.heap.objs.size + 1) = none := S'.fresh (oInst (q.y.N + 2) s.heap.objs.size) (List.mem_append_right _ (.tail _ (.head _)))
  have hne : ∀ p ∈ news, p.1 ≠ s.heap.objs.size + 1 := fun p hp e => by
    have := Heap.lt_size (N p hp).1
    rw [e] at this
    exact absurd this (Nat.not_lt.mpr (Nat.le_succ _))
  have N' : News h₀ L h' ((s.heap.objs.size + 1, ⟨.ref (q.y.N + 2), some s.heap.objs.size, .plain, #[]⟩) :: news) := fun p hp => by
    rcases List.mem_cons.mp hp with rfl | hp
    · exact ⟨hi, Nat.ne_of_gt (Nat.lt_succ_of_lt hLs), hin⟩
    · exact (N.grown keep) p hp
  have nd4 : ([q.y.N + 2, q.y.N + 1, q.y.N + 3, s.heap.objs.size + 1] : List Nat).Nodup := by
    have e1 := hne _ (K.sub _ (.head _))
    have e2 := hne _ (K.sub _ (.tail _ (.head _)))
    have e3 := hne _ (K.sub _ (.tail _ (.tail _ (.head _))))
    simp only [List.nodup_cons, List.mem_cons, List.not_mem_nil, or_false, not_or, not_false_eq_true, List.nodup_nil, and_true]
    exact ⟨⟨by omega, by omega, e1⟩, ⟨by omega, e2⟩, e3⟩
  rw [under_tc]
  refine kinit w p loose mean mg mb _ _ _ cn cs a ccd cl outer A₀ base h₀ L m news _ _ q u (s.heap.objs.size + 1) s.heap.objs.size c0 x t t1 t2 r1 B (F.kept keep) X N' T hk ?hd ?hu ?hm hf hc nd4 hne ?_
  case hd => show dp + 1 + 4 < recursionLimit; omega
  case hu => show un + 1 + 40 < cLine; omega
  case hm => exact fun p hp => K.sub p (by simp only [List.mem_cons, List.not_mem_nil, or_false] at hp; rcases hp with rfl | rfl | rfl; exact .head _; exact .tail _ (.head _); exact .tail _ (.tail _ (.head _)))
  intro h2 tk2 F2 N2
  exact ⟨rfl, hQ _ _ h2 tk2 hne F2 N2⟩
end
end
-- Ksrt
section
noncomputable def insL (C : Addr) : List (Addr × Addr) → List (Str × Tok) → List (Addr × Obj)
  | kd :: l, p :: r => (kd.1, kInst C kd.2 (.str p.1 p.2)) :: insL C l r
  | _, _ => []
theorem insL_at {C : Addr} : ∀ (l : List (Addr × Addr)) (r : List (Str × Tok)) (i : Nat) (kd : Addr × Addr) (p : Str × Tok), l[i]? = some kd → r[i]? = some p → (kd.1, kInst C kd.2 (.str p.1 p.2)) ∈ insL C l r
  | [], _, _, _, _, h, _ => by simp at h
  | _ :: _, [], _, _, _, _, h => by simp at h
  | a :: l, b :: r, 0, kd, p, h1, h2 => by
    simp only [List.getElem?_cons_zero, Option.some.injEq] at h1 h2
    subst h1 h2
    exact .head _
  | a :: l, b :: r, i + 1, kd, p, h1, h2 => .tail _ (insL_at l r i kd p h1 h2)
theorem insL_snoc {C : Addr} : ∀ (l : List (Addr × Addr)) (r : List (Str × Tok)) (kd : Addr × Addr) (p : Str × Tok), l.length = r.length → ∀ x ∈ insL C (l ++ [kd]) (r ++ [p]), x = (kd.1, kInst C kd.2 (.str p.1 p.2)) ∨ x ∈ insL C l r
  | [], [], kd, p, _, x, hx => .inl (by simpa [insL] using hx)
  | [], _ :: _, _, _, h, _, _ => by simp at h
  | _ :: _, [], _, _, h, _, _ => by simp at h
  | a :: l, b :: r, kd, p, h, x, hx => by
    rcases List.mem_cons.mp (show x ∈ (a.1, kInst C a.2 (.str b.1 b.2)) :: insL C (l ++ [kd]) (r ++ [p]) from hx) with rfl | hx
    · exact .inr (.head _)
    · exact (insL_snoc l r kd p (by simpa using h) x hx).imp id (.tail _)
theorem insL_fst {C : Addr} : ∀ (l : List (Addr × Addr)) (r : List (Str × Tok)) (x : Addr × Obj), x ∈ insL C l r → x.1 ∈ l.map (·.1)
  | [], _, _, h => by simp [insL] at h
  | _ :: _, [], _, h => by simp [insL] at h
  | a :: l, b :: r, x, h => by
    rcases List.mem_cons.mp (show x ∈ (a.1, kInst C a.2 (.str b.1 b.2)) :: insL C l r from h) with rfl | h
    · exact .head _
    · exact .tail _ (insL_fst l r x h)
abbrev strV (p : Str × Tok) : Value := .str p.1 p.2
section
variable {w : World} {q : NK} {u : Tok} {c0 c1 cell : Addr} {v0 v1 : List Value} {co : Obj} {p : Program} {loose : List Str} {mean : ExcName → Option Value} {mg mb : Str → Option Value} {dp un : Nat} {gd : Option (List Code)} {cn : Str} {cs : Scope} {a : Addr} {ccd : Value} {cl : List (Str × Addr)} {outer : List Env} {A₀ : Around} {base h₀ : Heap} {L : Addr} {m : Str → Option Value} {news : List (Addr × Obj)} {s : Shared} {E : Value → Shared → Prop}
theorem KLed.mono {news' : List (Addr × Obj)} (K : KLed w q u c0 c1 cell v0 v1 co news) (h : ∀ p ∈ news, p ∈ news') : KLed w q u c0 c1 cell v0 v1 co news' := ⟨K.ok, K.hco, h _ K.cellIn, fun p hp => h p (K.sub p hp), K.nd⟩
def RkS (xs : List (Str × Tok)) (i : Nat) : Nat := ((xs[i]?).map fun p => p.1.length).getD 0
def FirstMin (xs : List (Str × Tok)) (out : List Value) : Prop := ∃ p r, out = strV p :: r ∧ p ∈ xs ∧ ∀ p' ∈ xs, p.1.length ≤ p'.1.length
theorem firstMin_of {xs : List (Str × Tok)} {P : Array Nat} (h1 : 1 ≤ xs.length) (hp : POk xs.length P) (ha : Asc (RkS xs) P xs.length) : FirstMin xs (P.toList.map fun i => (xs.map strV).getD i .none) := by
  have hsz : P.toList.length = xs.length := by rw [Array.length_toList, hp.size]
  obtain ⟨i0, r, e⟩ : ∃ i0 r, P.toList = i0 :: r := by
    cases h : P.toList with
    | nil => rw [h] at hsz; simp at hsz; omega
    | cons i r => exact ⟨i, r, rfl⟩
  have hg : ∀ k, P.getD k 0 = (P.toList.getD k 0) := fun k => by simp [Array.getD_eq_getD_getElem?]
  have h0 : P.getD 0 0 = i0 := by rw [hg, e]; rfl
  have hi0 : i0 < xs.length := by rw [← h0]; exact hp.lt (by omega)
  refine ⟨xs[i0], r.map fun i => (xs.map strV).getD i .none, ?_, List.getElem_mem hi0, fun p' hp' => ?_⟩
  · rw [e, List.map_cons]
    congr 1
    simp [hi0]
  · obtain ⟨j, hj, rfl⟩ := List.mem_iff_getElem.mp hp'
    have hm : j ∈ P := hp.perm.mem_iff.mpr (by simpa using hj)
    obtain ⟨k, hk, hkj⟩ := Array.mem_iff_getElem.mp hm
    have := ha 0 k (Nat.zero_le _) (by rw [hp.size] at hk; exact hk)
    have e1 : Rk (RkS xs) P 0 = (xs[i0]).1.length := by unfold Rk RkS; rw [h0]; simp [hi0]
    have e2 : Rk (RkS xs) P k = (xs[j]).1.length := by
      unfold Rk RkS
      have : P.getD k 0 = j := by rw [← hkj]; simp [Array.getD, hk]
      rw [this]; simp [hj]
    rw [e1, e2] at this
    exact this
theorem ksrt_end {A : Around} {xs : List (Str × Tok)} {kds : List (Addr × Addr)} {kS D : Addr} {kA : Array Value} {e e1 : Nat} {P : PySem.Fin → Shared → Prop} (hA : A = ktrTop dp un gd cn cs L a ccd cl outer) (K : KLed w q u c0 c1 cell v0 v1 co news)
    (B : Below A₀ base outer h₀) (F : Fr h₀ L s.heap m) (X : (hd.heap_39 w.params).In h₀) (T : Top p loose mean mg mb h₀) (hk : cs.kind = .function) (hd : dp + 10 < recursionLimit) (hu : un + 80 < cLine)
    (N : News h₀ L s.heap (insL (q.y.N + 2) kds xs ++ (news ++ [(kS, seqObj "list" kA e), (D, seqObj "list" #[] e1)]))) (hkl : kds.length = xs.length) (hkA : kA.toList = kds.map fun kd => Value.ref kd.1) (hkD : kS ≠ D) (hnk : ∀ p ∈ news, p.1 ≠ kS) (hnD : ∀ p ∈ news, p.1 ≠ D)
    (h2 : 2 ≤ xs.length) (h64 : xs.length < 64) (hlen : ∀ p ∈ xs, p.1.length ≤ 1000000)
    (hQ : ∀ out c h' tk', Fr h₀ L h' m → News h₀ L h' ((D, seqObj "list" out c) :: news) → FirstMin xs out.toList → P (.done (.ret .none)) { s with heap := h', toks := tk' }) :
    wpAny (model PySem.Challenge.rw_il0164_01.row.prog w) A (ksk_end D false (xs.map strV).toArray e1 (.ref kS) kA) P E s := by
  subst hA
  have hsz : kA.size = xs.length := by rw [← Array.length_toList, hkA, List.length_map, hkl]
  have hsx : (xs.map strV).toArray.size = xs.length := by simp
  have hzs : (kA.zip (xs.map strV).toArray).size = xs.length := by rw [Array.size_zip, hsz, hsx, Nat.min_self]
  have inst : ∀ i, i < xs.length → ∃ kd p, kds[i]? = some kd ∧ xs[i]? = some p ∧ kas_item (kA.zip (xs.map strV).toArray) i = (.ref kd.1, strV p) ∧ (kd.1, kInst (q.y.N + 2) kd.2 (.str p.1 p.2)) ∈ insL (q.y.N + 2) kds xs := fun i hi => by
    have e1 : kds[i]? = some kds[i] := List.getElem?_eq_getElem (by omega)
    have e2 : xs[i]? = some xs[i] := List.getElem?_eq_getElem hi
    refine ⟨_, _, e1, e2, ?_, insL_at _ _ i _ _ e1 e2⟩
    unfold kas_item
    have h1 : i < (kA.zip (xs.map strV).toArray).size := by omega
    have h3 : (kA.zip (xs.map strV).toArray).getD i (.none, .none) = (kA.zip (xs.map strV).toArray)[i] := by rw [Array.getD_eq_getD_getElem?, Array.getElem?_eq_getElem h1]; rfl
    rw [h3, Array.getElem_zip]
    have h4 : kA[i]'(by omega) = .ref kds[i].1 := by
      have : kA.toList[i]'(by rw [Array.length_toList]; omega) = (kds.map fun kd => Value.ref kd.1)[i]'(by rw [List.length_map]; omega) := by congr 1
      simpa using this
    rw [h4]
    simp
  unfold ksk_end
  dsimp only
  have hn2 : ¬ (xs.map strV).toArray.size < 2 := by rw [hsx]; omega
  rw [if_neg (by simp), if_neg hn2, if_neg hn2]
  have kk : kA = (kds.map fun kd => Value.ref kd.1).toArray := by rw [← hkA]
  have hkk : wpAny (model PySem.Challenge.rw_il0164_01.row.prog w) (ktrTop dp un gd cn cs L a ccd cl outer) (keyKind' kA) (fun κ s' => κ = oneType' ∧ s' = s) E s := by
    rw [kk]
    refine kas_kind (vs := kds.map fun kd => Value.ref kd.1) (T := .ref (q.y.N + 2)) (by rw [List.length_map]; omega) (fun v hv => ?_) (by rfl) (by simp) ⟨rfl, rfl⟩
    obtain ⟨kd, hkd, rfl⟩ := List.mem_map.mp hv
    obtain ⟨i, hi⟩ := List.getElem?_of_mem hkd
    have hil : i < kds.length := (List.getElem?_eq_some_iff.mp hi).1
    have e2 : xs[i]? = some (xs[i]'(by omega)) := List.getElem?_eq_getElem (by omega)
    have hm := (N _ (List.mem_append_left _ (insL_at (C := q.y.N + 2) kds xs i kd _ hi e2))).1
    exact (Looks.ld hm).andThen .now
  refine wpAny_bind (wpAny_mono hkk ?_ fun _ _ e => e)
  rintro κ s' ⟨rfl, e5⟩
  rw [e5]
  clear e5 s'
  have est : SortSt.mk' oneType' (kA.zip (xs.map strV).toArray) #[] 7 none = kas_st oneType' (kA.zip (xs.map strV).toArray) (List.toArray (List.range xs.length)) := by
    have e := kas_range (kA.zip (xs.map strV).toArray)
    rw [hzs] at e
    show _ = SortSt.mk' oneType' ((List.toArray (List.range xs.length)).map (kas_item (kA.zip (xs.map strV).toArray))) #[] 7 none
    rw [e]
  rw [show (if false = true then (kA.zip (xs.map strV).toArray).reverse else kA.zip (xs.map strV).toArray) = kA.zip (xs.map strV).toArray from rfl, est]
  have H : AskOk (RkS xs) xs.length (fun s' => ∃ h' tk', s' = { s with heap := h', toks := tk' } ∧ Fr h₀ L h' m ∧ News h₀ L h' (insL (q.y.N + 2) kds xs ++ (news ++ [(kS, seqObj "list" kA e), (D, seqObj "list" #[] e1)]))) (kas_cmp PySem.Challenge.rw_il0164_01.row.prog w (ktrTop dp un gd cn cs L a ccd cl outer) oneType' (kA.zip (xs.map strV).toArray)) := by
    rintro i j C s' hi hj ⟨h', tk', rfl, F', N'⟩ hC
    obtain ⟨kd1, p1, a1, a2, a3, a4⟩ := inst i hi
    obtain ⟨kd2, p2, b1, b2, b3, b4⟩ := inst j hj
    unfold kas_cmp
    rw [a3, b3]
    have r1 : RkS xs i = p1.1.length := by unfold RkS; rw [a2]; rfl
    have r2 : RkS xs j = p2.1.length := by unfold RkS; rw [b2]; rfl
    refine kcmp (K.mono fun p hp => List.mem_append_right _ (List.mem_append_left _ hp)) B F' X N' T hk hd hu (List.mem_append_left _ a4) (List.mem_append_left _ b4) (hlen _ (List.mem_of_getElem? a2)) (hlen _ (List.mem_of_getElem? b2)) ?_
    intro b h2 tk2 c1 c2 F2 N2
    exact hC b _ ⟨h2, tk2, rfl, F2, N2⟩ (by rw [r1, r2]; exact c1) (by rw [r1, r2]; exact c2)
  have run := kas_runs (E := E) (Q := fun _ st' s' => ∃ P : Array Nat, P.size = xs.length ∧ arrOf st' = P.map (kas_item (kA.zip (xs.map strV).toArray)) ∧ failedOf st' = none ∧ POk xs.length P ∧ Asc (RkS xs) P xs.length ∧ ∃ h' tk', s' = { s with heap := h', toks := tk' } ∧ Fr h₀ L h' m ∧ News h₀ L h' (insL (q.y.N + 2) kds xs ++ (news ++ [(kS, seqObj "list" kA e), (D, seqObj "list" #[] e1)])))
    h2 h64 (fun p' st' s' a1 a2 a3 a4 => ⟨p', a1, a2, a3, a4⟩) (srt_sort H (by omega) ⟨s.heap, s.toks, rfl, F, N⟩ fun P s' x1 x2 x3 => ⟨x1, x2, x3⟩)
  refine wpAny_bind (wpAny_mono run ?_ fun _ _ e => e)
  rintro ⟨⟨⟩, st'⟩ s' ⟨P, hP, har, hf, pok, asc, h', tk', rfl, F', N'⟩
  dsimp only
  have hout : (arrOf st').map (·.2) = List.toArray (P.toList.map fun i => (xs.map strV).getD i .none) := by
    apply Array.toList_inj.mp
    rw [har, Array.map_map, Array.toList_map]
    refine List.map_congr_left fun i hi => ?_
    have hi' : i < xs.length := by
      have := pok.perm.mem_iff.mp (Array.mem_toList_iff.mp hi)
      simpa using this
    obtain ⟨kd, p1, a1, a2, a3, a4⟩ := inst i hi'
    show (kas_item _ i).2 = _
    rw [a3]
    have : (xs.map strV)[i]? = some (strV p1) := by rw [List.getElem?_map, a2]; rfl
    simp [this]
  have nk := N' (kS, seqObj "list" kA e) (List.mem_append_right _ (List.mem_append_right _ (.head _)))
  have nD := N' (D, seqObj "list" #[] e1) (List.mem_append_right _ (List.mem_append_right _ (.tail _ (.head _))))
  have Nn : News h₀ L h' news := fun p hp => N' p (List.mem_append_right _ (List.mem_append_left _ hp))
  have s1 := Heap.SameBut.update h' kS (Obj.mapSeq fun _ => (#[] : Array Value))
  have nD1 : (h'.update kS (Obj.mapSeq fun _ => (#[] : Array Value))).get? D = some (seqObj "list" #[] e1) := (s1.2 D hkD.symm).trans nD.1
  have s2 := Heap.SameBut.update (h'.update kS (Obj.mapSeq fun _ => (#[] : Array Value))) D (Obj.mapSeq fun _ => (arrOf st').map (·.2))
  obtain ⟨c2, hc2⟩ : ∃ c2, ((h'.update kS (Obj.mapSeq fun _ => (#[] : Array Value))).update D (Obj.mapSeq fun _ => (arrOf st').map (·.2))).get? D = some (seqObj "list" ((arrOf st').map (·.2)) c2) :=
    ⟨_, get?_update_seq nD1 fun _ => (arrOf st').map (·.2)⟩
  have hos : ((arrOf st').map (·.2)).size = xs.length := by rw [hout, List.size_toArray, List.length_map, Array.length_toList, hP]
  unfold ksk_tail
  dsimp only
  refine wpAny_bind (listUpdate_at nk.1 rfl ?_ (by rw [hsz, sizeLine_eq]; omega) (Nat.zero_le _))
  refine wpAny_bind (wpAny_letGo ?_)
  refine wpAny_bind (seqEpoch_at nD1 rfl ?_)
  refine wpAny_bind (listUpdate_at nD1 rfl ?_ (Nat.zero_le _) (Nat.le_trans (Nat.le_of_eq hos) (by rw [sizeLine_eq]; omega)))
  rw [hf]
  simp only [bne_self_eq_false, Bool.false_eq_true, if_false]
  refine wpAny_pure (hQ ((arrOf st').map (·.2)) c2 _ tk' (ksk_fr (ksk_fr F' s1 nk.2.1 nk.2.2) s2 nD.2.1 nD.2.2) (fun p hp => ?_) ?_)
  · rcases List.mem_cons.mp hp with rfl | hp
    · exact ⟨hc2, nD.2⟩
    · exact ksk_news (ksk_news Nn s1 hnk) s2 hnD p hp
  · rw [hout, List.toList_toArray]
    exact firstMin_of (by omega) pok asc
end
section
variable {w : World} {q : NK} {u : Tok} {c0 c1 cell : Addr} {v0 v1 : List Value} {co : Obj} {p : Program} {loose : List Str} {mean : ExcName → Option Value} {mg mb : Str → Option Value} {dp un : Nat} {gd : Option (List Code)} {cn : Str} {cs : Scope} {a : Addr} {ccd : Value} {cl : List (Str × Addr)} {outer : List Env} {A₀ : Around} {base h₀ : Heap} {L : Addr} {m : Str → Option Value} {news : List (Addr × Obj)} {s : Shared} {E : Value → Shared → Prop}
theorem ksrt_rest {A : Around} {xs : List (Str × Tok)} {kS D : Addr} {e1 : Nat} {P : PySem.Fin → Shared → Prop} (hA : A = ktrTop dp un gd cn cs L a ccd cl outer) (K : KLed w q u c0 c1 cell v0 v1 co news)
    (B : Below A₀ base outer h₀) (F : Fr h₀ L s.heap m) (X : (hd.heap_39 w.params).In h₀) (T : Top p loose mean mg mb h₀) (hk : cs.kind = .function) (hd : dp + 10 < recursionLimit) (hu : un + 80 < cLine)
    (N : News h₀ L s.heap (news ++ [(kS, seqObj "list" #[] 0), (D, seqObj "list" #[] e1)])) (hkD : kS ≠ D) (hnk : ∀ p ∈ news, p.1 ≠ kS) (hnD : ∀ p ∈ news, p.1 ≠ D)
    (h2 : 2 ≤ xs.length) (h64 : xs.length < 64) (hlen : ∀ p ∈ xs, p.1.length ≤ 1000000)
    (hQ : ∀ out c h' tk', Fr h₀ L h' m → News h₀ L h' ((D, seqObj "list" out c) :: news) → FirstMin xs out.toList → P (.done (.ret .none)) { s with heap := h', toks := tk' }) :
    wpAny (model PySem.Challenge.rw_il0164_01.row.prog w) A (ksk_rest D (.ref (q.y.N + 2)) false (xs.map strV).toArray e1 (.ref kS)) P E s := by
  unfold ksk_rest
  refine wpAny_bind (wpAny_rule ?_)
  rw [List.forIn_toArray]
  refine wpAny_bind (ksk_fold (fun i s' => ∃ h' tk kA e kds, s' = { s with heap := h', toks := tk } ∧ Fr h₀ L h' m ∧ kds.length = (xs.take i).length ∧ kA.toList = kds.map (fun kd : Addr × Addr => Value.ref kd.1) ∧ (∀ kd ∈ kds, kd.1 ≠ kS) ∧ News h₀ L h' (insL (q.y.N + 2) kds (xs.take i) ++ (news ++ [(kS, seqObj "list" kA e), (D, seqObj "list" #[] e1)]))) (xs.map strV) 0 s
    ⟨s.heap, s.toks, #[], 0, [], rfl, F, by simp, rfl, fun _ h => (nomatch h), N⟩ ?step ?done)
  case step =>
    rintro j v s' hv ⟨h', tk, kA, e, kds, rfl, F', hl, hkA, hne, N'⟩
    simp only [Nat.zero_add] at hl N' ⊢
    obtain ⟨x, hx, rfl⟩ : ∃ x, xs[j]? = some x ∧ v = strV x := by
      rw [List.getElem?_map] at hv
      cases q : xs[j]? with
      | none => rw [q] at hv; simp at hv
      | some x => rw [q] at hv; exact ⟨x, rfl, (Option.some.inj hv).symm⟩
    have hj : j < xs.length := (List.getElem?_eq_some_iff.mp hx).1
    have hz : kA.size = j := by rw [← Array.length_toList, hkA, List.length_map, hl, List.length_take]; omega
    subst hA
    refine wpAny_bind (wpAny_attempt (knew (K.mono fun p hp => List.mem_append_right _ (List.mem_append_left _ hp)) B F' X N' T hk hd hu ?_))
    intro k d h2 tk2 hfr F2 N2
    try dsimp only
    have nk := N2 (kS, seqObj "list" kA e) (.tail _ (List.mem_append_right _ (List.mem_append_right _ (.head _))))
    have s1 := Heap.SameBut.update h2 kS (Obj.mapSeq (·.push (.ref k)))
    obtain ⟨c2, hc2⟩ : ∃ c2, (h2.update kS (Obj.mapSeq (·.push (.ref k)))).get? kS = some (seqObj "list" (kA.push (.ref k)) c2) := ⟨_, get?_update_seq nk.1 (·.push (.ref k))⟩
    have ek : xs.take (j + 1) = xs.take j ++ [x] := by rw [List.take_add_one, hx]; simp
    have hks : k ≠ kS := fun e2 => hfr _ (List.mem_append_right _ (List.mem_append_right _ (.head _))) e2.symm
    refine wpAny_bind (listUpdate_at nk.1 rfl ?_ (by rw [sizeLine_eq]; omega) (Nat.le_trans (Nat.le_of_eq (Array.size_push ..)) (by rw [sizeLine_eq]; omega)))
    refine wpAny_pure ⟨rfl, _, _, kA.push (.ref k), c2, kds ++ [(k, d)], rfl, ksk_fr F2 s1 nk.2.1 nk.2.2, ?_, ?_, ?_, fun p hp => ?_⟩
    · rw [ek, List.length_append, List.length_append, hl]; rfl
    · rw [Array.toList_push, hkA, List.map_append]; rfl
    · intro kd hkd
      rcases List.mem_append.mp hkd with h | h
      · exact hne kd h
      · rw [List.mem_singleton.mp h]; exact hks
    · rw [ek] at hp
      have keepn : ∀ p : Addr × Obj, p.1 ≠ kS → p ∈ (k, kInst (q.y.N + 2) d (.str x.1 x.2)) :: (insL (q.y.N + 2) kds (xs.take j) ++ (news ++ [(kS, seqObj "list" kA e), (D, seqObj "list" #[] e1)])) → (h2.update kS (Obj.mapSeq (·.push (.ref k)))).get? p.1 = some p.2 ∧ p.1 ≠ L ∧ h₀.get? p.1 = none := fun p h3 h4 => ⟨(s1.2 p.1 h3).trans (N2 p h4).1, (N2 p h4).2⟩
      rcases List.mem_append.mp hp with hp | hp
      · rcases insL_snoc kds (xs.take j) (k, d) x hl p hp with rfl | hp
        · exact keepn _ hks (.head _)
        · refine keepn _ ?_ (.tail _ (List.mem_append_left _ hp))
          obtain ⟨kd, hkd, e3⟩ := List.mem_map.mp (insL_fst _ _ _ hp)
          rw [← e3]; exact hne kd hkd
      · rcases List.mem_append.mp hp with hp | hp
        · exact keepn _ (hnk p hp) (.tail _ (List.mem_append_right _ (List.mem_append_left _ hp)))
        · rcases List.mem_cons.mp hp with rfl | hp
          · exact ⟨hc2, nk.2⟩
          · rw [List.mem_singleton.mp hp]
            exact keepn _ hkD.symm (.tail _ (List.mem_append_right _ (List.mem_append_right _ (.tail _ (.head _)))))
  case done =>
    rintro s' ⟨h', tk, kA, e, kds, rfl, F', hl, hkA, hne, N'⟩
    have e3 : xs.take (0 + (xs.map strV).length) = xs := List.take_of_length_le (by rw [List.length_map]; omega)
    rw [e3] at hl N'
    have nk := N' (kS, seqObj "list" kA e) (List.mem_append_right _ (List.mem_append_right _ (.head _)))
    try dsimp only
    refine wpAny_bind (listItems_at nk.1 rfl ?_)
    exact ksrt_end hA K B F' X T hk hd hu N' hl hkA hkD hnk hnD h2 h64 hlen fun out c h3 tk3 F3 N3 fm => hQ out c h3 tk3 F3 N3 fm
theorem ksrt_sort {A : Around} {xs : List (Str × Tok)} {D : Addr} {n : Nat} {P : PySem.Fin → Shared → Prop} (hA : A = ktrTop dp un gd cn cs L a ccd cl outer) (K : KLed w q u c0 c1 cell v0 v1 co news)
    (B : Below A₀ base outer h₀) (F : Fr h₀ L s.heap m) (X : (hd.heap_39 w.params).In h₀) (T : Top p loose mean mg mb h₀) (hk : cs.kind = .function) (hd : dp + 10 < recursionLimit) (hu : un + 80 < cLine)
    (N : News h₀ L s.heap news) (ho : s.heap.get? D = some (seqObj "list" (xs.map strV).toArray n)) (hDL : D ≠ L) (hD0 : h₀.get? D = none) (hnD : ∀ p ∈ news, p.1 ≠ D)
    (h2 : 2 ≤ xs.length) (h64 : xs.length < 64) (hlen : ∀ p ∈ xs, p.1.length ≤ 1000000)
    (hQ : ∀ out c h' tk', Fr h₀ L h' m → News h₀ L h' ((D, seqObj "list" out c) :: news) → FirstMin xs out.toList → P (.done (.ret .none)) { s with heap := h', toks := tk' }) :
    wpAny (model PySem.Challenge.rw_il0164_01.row.prog w) A (ksk_tree D (.ref (q.y.N + 2)) false) P E s := by
  have ha : D < s.heap.objs.size := Heap.lt_size ho
  have s1 := Heap.SameBut.update s.heap D (Obj.mapSeq fun _ => (#[] : Array Value))
  obtain ⟨e1, ho1⟩ : ∃ e1, (s.heap.update D (Obj.mapSeq fun _ => (#[] : Array Value))).get? D = some (seqObj "list" #[] e1) := ⟨_, get?_update_seq ho fun _ => #[]⟩
  have F1 := ksk_fr F s1 hDL hD0
  have N1 := ksk_news N s1 hnD
  have hkS : ((s.heap.update D (Obj.mapSeq fun _ => (#[] : Array Value))).push (seqObj "tuple" (xs.map strV).toArray 0)).objs.size = s.heap.objs.size + 1 := by rw [size_push', Heap.size_update]
  have hLk : L < ((s.heap.update D (Obj.mapSeq fun _ => (#[] : Array Value))).push (seqObj "tuple" (xs.map strV).toArray 0)).objs.size := (F1.push _).ns.lt
  unfold ksk_tree
  refine wpAny_bind (listItems_at ho rfl ?_)
  refine wpAny_bind (listUpdate_at ho rfl ?_ (by rw [List.size_toArray, List.length_map, sizeLine_eq]; omega) (Nat.zero_le _))
  refine wpAny_bind (seqEpoch_at ho1 rfl ?_)
  refine wpAny_bind (wpAny_newTuple ?_ (by show (xs.map strV).length ≤ _; rw [List.length_map, sizeLine_eq]; omega))
  refine wpAny_bind (wpAny_newList ?_ (Nat.zero_le _))
  refine wpAny_holding ?_
  refine ksrt_rest (s := { s with heap := ((s.heap.update D (Obj.mapSeq fun _ => (#[] : Array Value))).push (seqObj "tuple" (xs.map strV).toArray 0)).push (seqObj "list" #[] 0) }) (kS := ((s.heap.update D (Obj.mapSeq fun _ => (#[] : Array Value))).push (seqObj "tuple" (xs.map strV).toArray 0)).objs.size)
    hA K B ((F1.push _).push _) X T hk hd hu (fun p hp => ?_) (by rw [hkS]; exact Nat.ne_of_gt (Nat.lt_succ_of_lt ha)) (fun p hp => by rw [hkS]; exact Nat.ne_of_lt (Nat.lt_succ_of_lt (Heap.lt_size (N p hp).1))) hnD h2 h64 hlen hQ
  rcases List.mem_append.mp hp with hp | hp
  · exact ⟨Heap.get?_push_of_some _ (Heap.get?_push_of_some _ (N1 p hp).1), (N1 p hp).2⟩
  · rcases List.mem_cons.mp hp with rfl | hp
    · exact ⟨Heap.get?_push_size _ rfl, Nat.ne_of_gt hLk, Heap.get?_none_of_le (Nat.le_trans F.above (Nat.le_of_lt hLk))⟩
    · rw [List.mem_singleton.mp hp]
      exact ⟨Heap.get?_push_of_some _ (Heap.get?_push_of_some _ ho1), hDL, hD0⟩
theorem ksrt_sorted {xs : List (Str × Tok)} {l : Addr} {Q : Value → Shared → Prop} (K : KLed w q u c0 c1 cell v0 v1 co news)
    (B : Below A₀ base outer h₀) (F : Fr h₀ L s.heap m) (X : (hd.heap_39 w.params).In h₀) (T : Top p loose mean mg mb h₀) (hk : cs.kind = .function) (hd : dp + 10 < recursionLimit) (hu : un + 82 < cLine)
    (N : News h₀ L s.heap news) (hl : s.heap.IsList l (xs.map strV).toArray) (h2 : 2 ≤ xs.length) (h64 : xs.length < 64) (hlen : ∀ p ∈ xs, p.1.length ≤ 1000000)
    (hQ : ∀ D out c h' tk', Fr h₀ L h' m → News h₀ L h' ((D, seqObj "list" out c) :: news) → (∀ p ∈ news, p.1 ≠ D) → FirstMin xs out.toList → Q (.ref D) { s with heap := h', toks := tk' }) :
    wpAny (model PySem.Challenge.rw_il0164_01.row.prog w) (ktrTop dp un gd cn cs L a ccd cl outer) (call (.builtin "sorted") [.ref l] [(Str.ofString "key", .ref (q.y.N + 2))]) Q E s := by
  refine call_function_entry_kw kind_sorted plain_sorted entry_sorted (ksk_s1 _ _) ?_
  unfold Builtin.«sorted»
  refine wpAny_bind (m := checkCount "sorted" 1 1 _) (wpAny_pure ?_)
  refine wpAny_bind (collect_list hl ?_ (by rw [List.length_map, sizeLine_eq]; omega))
  refine wpAny_bind (wpAny_newList ?_ (by rw [List.length_map, sizeLine_eq]; omega))
  have hsz : ((s.heap.push (seqObj "list" #[] 0)).update s.heap.objs.size (Obj.mapSeq (· ++ (xs.map strV).toArray))).objs.size = s.heap.objs.size + 1 := by
    rw [Heap.size_update, size_push']
  have hoL : (((s.heap.push (seqObj "list" #[] 0)).update s.heap.objs.size (Obj.mapSeq (· ++ (xs.map strV).toArray))).push (seqObj "list" (xs.map strV).toArray 0)).get? (s.heap.objs.size + 1) = some (seqObj "list" (xs.map strV).toArray 0) := by
    rw [← hsz]; exact Heap.get?_push_size _ rfl
  have keep : ∀ b o, s.heap.get? b = some o → (((s.heap.push (seqObj "list" #[] 0)).update s.heap.objs.size (Obj.mapSeq (· ++ (xs.map strV).toArray))).push (seqObj "list" (xs.map strV).toArray 0)).get? b = some o := fun b o q => by
    have hlt : b < s.heap.objs.size := Heap.lt_size q
    rw [Heap.get?_push_ne _ _ _ (by rw [hsz]; exact Nat.ne_of_lt (Nat.lt_succ_of_lt hlt)), Heap.get?_update_ne _ _ _ _ (Nat.ne_of_lt hlt), Heap.get?_push_ne _ _ _ (Nat.ne_of_lt hlt)]
    exact q
  have hL : L < s.heap.objs.size := F.ns.lt
  have hnD : ∀ p ∈ news, p.1 ≠ s.heap.objs.size + 1 := fun p hp => Nat.ne_of_lt (Nat.lt_succ_of_lt (Heap.lt_size (N p hp).1))
  show wpAny _ _ _ _ _ { s with heap := ((s.heap.push (seqObj "list" #[] 0)).update s.heap.objs.size (Obj.mapSeq (· ++ (xs.map strV).toArray))).push (seqObj "list" (xs.map strV).toArray 0) }
  rw [hsz]
  refine wpAny_bind (wpAny_holding (wpAny_call_entry_kw slot_list_sort ⟨_, hoL, rfl⟩ entry_list_sort ?body (ksk_l1 _ _)))
  case body =>
    show wpAny _ (ktrTop dp un gd cn cs L a ccd cl outer).in1.in1 (Builtin.«list.sort» ⟨[.ref (s.heap.objs.size + 1)], [(Str.ofString "key", .ref (q.y.N + 2))]⟩) _ _ _
    rw [ksk_t1]
    refine ksrt_sort (dp := dp) (un := un + 2) (gd := gd) (cn := cn) (cs := cs) (a := a) (ccd := ccd) (cl := cl) (outer := outer) (s := { s with heap := ((s.heap.push (seqObj "list" #[] 0)).update s.heap.objs.size (Obj.mapSeq (· ++ (xs.map strV).toArray))).push (seqObj "list" (xs.map strV).toArray 0) })
      rfl K B (F.kept keep) X T hk hd (by omega) (N.grown keep) hoL (Nat.ne_of_gt (Nat.lt_succ_of_lt hL)) (Heap.get?_none_of_le (Nat.le_trans F.above (Nat.le_succ_of_le (Nat.le_of_lt hL))))
      hnD h2 h64 hlen fun out c h' tk' F' N' fm => ⟨_, rfl, ?_⟩
    exact wpAny_pure ⟨_, rfl, hQ _ out c h' tk' F' N' hnD fm⟩
end
end
-- Bjoin
section
def yB (w : World) (sl : Array (Option Value)) (s : Shared) : KP := ⟨w, sl, s.heap.objs.size, 0, s.toks, .none, none, #[]⟩
theorem sl_bytes_join : Slot "bytes" (Str.ofString "join") "bytes.join" :=
  .of (owner := "bytes") (n := "join") (by rw [typeLookup_type, builtinLookup_eq_fast]; kernel_rfl) (by decide +kernel) (by decide +kernel) (by decide +kernel)
    (by first | exact .inl (by decide +kernel) | exact .inr (by decide +kernel)) (by rw [isSubtype_type]; kernel_rfl)
theorem ty_bytes_join : typeOf (.builtin "bytes.join") = pure (.type "method_descriptor") := by kernel_rfl
theorem method_join {M : Model} {A : Around} {E : Value → Shared → Prop} {s : Shared} {b : Array UInt8} {t : Tok} {pl : Sem Bool} {Q : Value × List Value → Shared → Prop} (h : Q (.builtin "bytes.join", [.bytes b t]) s) : wpAny M A (getMethod (.bytes b t) "join" pl) Q E s := by
  have noRef : ∀ a, Value.bytes b t = .ref a → ∃ o, s.heap.get? a = some o ∧ o.dict = none := fun _ e => nomatch e
  with_reducible exact KBd.method_of (.bytes b t) (typeIs_bytes _ _ _) sl_bytes_join ty_bytes_join noRef h
theorem bjoin1 {w : World} {a : Addr} {t : Tok} {b1 : Array UInt8} {t1 : Tok} {n : Nat} {A : Around} {E : Value → Shared → Prop} {s : Shared} {h₀ : Heap} {L : Addr} {m : Str → Option Value} {news : List (Addr × Obj)} {p : Program} {loose : List Str} {mean : ExcName → Option Value} {mg mb : Str → Option Value} {Q : Value → Shared → Prop}
    (F : Fr h₀ L s.heap m) (X : (hd.heap_39 w.params).In h₀) (N : News h₀ L s.heap news) (T : Top p loose mean mg mb h₀) (hm : (a, PySem.W.listOf #[.bytes b1 t1] n) ∈ news)
    (hQ : ∀ x t' h' tk', x.toList = b1.toList → Fr h₀ L h' m → News h₀ L h' news → Q (.bytes x t') { s with heap := h', toks := tk' }) : wpAny (model PySem.Challenge.rw_il0164_01.row.prog w) A (call (.builtin "bytes.join") [.bytes #[] t, .ref a]) Q E s := by
  obtain ⟨sl, X4⟩ := x4_of X T
  have hin : ∀ p ∈ [(a, PySem.W.listOf #[.bytes b1 t1] n)], p ∈ news := fun p hp => by rw [List.mem_singleton.mp hp]; exact hm
  have S := Sat.led F N hin (by simp)
  have fin : ∀ h', Sat s.heap.objs.size s.heap h₀ 0 [(a, PySem.W.listOf #[.bytes b1 t1] n)] h' → Fr h₀ L h' m ∧ News h₀ L h' news := fun h' S' => by
    have keep := Sat.same (fun p hp => (N p (hin p hp)).1) S'
    exact ⟨F.kept keep, N.grown keep⟩
  refine wpAny_call (go_again (y := yB w sl s) X4 99 [] (nst [(a, PySem.W.listOf #[.bytes b1 t1] n)] 0 s.toks) _ (c' := .builtin "bytes.join" ⟨[.bytes #[] t, .ref a], []⟩) S rfl rfl (by kernel_rfl) (fun h1 tk1 S1 ht1 => ?_) (by kernel_rfl) (by kernel_rfl))
  refine go_e (b := PySem.Builtin.«bytes.join») (entryFor_of_tree (by kernel_rfl)) ?_
  show wpAny _ _ (Builtin.Bytes.joinM .bytes ⟨[.bytes #[] t, .ref a], []⟩) _ _ _
  unfold Builtin.Bytes.joinM
  refine wpAny_bind (wpAny_of_eq (a := (Value.bytes #[] t, Value.ref a)) (by kernel_rfl) ?_)
  refine leafb (y := yB w sl s) X4 99 [.o 0] _ _ (.ref a) S1 ht1 rfl (fun h2 tk2 S2 ht2 => ?_) (by kernel_rfl) (by kernel_rfl)
  refine leafb (y := yB w sl s) X4 99 [.o 0] _ _ (some #[.bytes b1 t1]) S2 ht2 rfl (fun h3 tk3 S3 ht3 => ?_) (by kernel_rfl) (by kernel_rfl)
  refine wpAny_ite_true (by kernel_rfl) ?_
  refine wpAny_bind (wpAny_of_eq (a := .type "bytes") (by kernel_rfl) ?_)
  refine wpAny_ite_true (by kernel_rfl) (wpAny_bind (wpAny_rule ?_))
  have f6 := fin h3 (S3.cast (by kernel_rfl) (by kernel_rfl))
  exact wpAny_pure (hQ _ _ h3 tk3 rfl f6.1 f6.2)
theorem bjoin2 {w : World} {a : Addr} {t : Tok} {b1 b2 : Array UInt8} {t1 t2 : Tok} {n : Nat} {A : Around} {E : Value → Shared → Prop} {s : Shared} {h₀ : Heap} {L : Addr} {m : Str → Option Value} {news : List (Addr × Obj)} {p : Program} {loose : List Str} {mean : ExcName → Option Value} {mg mb : Str → Option Value} {Q : Value → Shared → Prop}
    (F : Fr h₀ L s.heap m) (X : (hd.heap_39 w.params).In h₀) (N : News h₀ L s.heap news) (T : Top p loose mean mg mb h₀) (hm : (a, PySem.W.listOf #[.bytes b1 t1, .bytes b2 t2] n) ∈ news) (hz : b1.size + b2.size ≤ 300000)
    (hQ : ∀ x t' h' tk', x.toList = b1.toList ++ b2.toList → Fr h₀ L h' m → News h₀ L h' news → Q (.bytes x t') { s with heap := h', toks := tk' }) : wpAny (model PySem.Challenge.rw_il0164_01.row.prog w) A (call (.builtin "bytes.join") [.bytes #[] t, .ref a]) Q E s := by
  obtain ⟨sl, X4⟩ := x4_of X T
  have hin : ∀ p ∈ [(a, PySem.W.listOf #[.bytes b1 t1, .bytes b2 t2] n)], p ∈ news := fun p hp => by rw [List.mem_singleton.mp hp]; exact hm
  have S := Sat.led F N hin (by simp)
  have fin : ∀ h', Sat s.heap.objs.size s.heap h₀ 0 [(a, PySem.W.listOf #[.bytes b1 t1, .bytes b2 t2] n)] h' → Fr h₀ L h' m ∧ News h₀ L h' news := fun h' S' => by
    have keep := Sat.same (fun p hp => (N p (hin p hp)).1) S'
    exact ⟨F.kept keep, N.grown keep⟩
  refine wpAny_call (go_again (y := yB w sl s) X4 99 [] (nst [(a, PySem.W.listOf #[.bytes b1 t1, .bytes b2 t2] n)] 0 s.toks) _ (c' := .builtin "bytes.join" ⟨[.bytes #[] t, .ref a], []⟩) S rfl rfl (by kernel_rfl) (fun h1 tk1 S1 ht1 => ?_) (by kernel_rfl) (by kernel_rfl))
  refine go_e (b := PySem.Builtin.«bytes.join») (entryFor_of_tree (by kernel_rfl)) ?_
  show wpAny _ _ (Builtin.Bytes.joinM .bytes ⟨[.bytes #[] t, .ref a], []⟩) _ _ _
  unfold Builtin.Bytes.joinM
  refine wpAny_bind (wpAny_of_eq (a := (Value.bytes #[] t, Value.ref a)) (by kernel_rfl) ?_)
  refine leafb (y := yB w sl s) X4 99 [.o 0] _ _ (.ref a) S1 ht1 rfl (fun h2 tk2 S2 ht2 => ?_) (by kernel_rfl) (by kernel_rfl)
  refine leafb (y := yB w sl s) X4 99 [.o 0] _ _ (some #[.bytes b1 t1, .bytes b2 t2]) S2 ht2 rfl (fun h3 tk3 S3 ht3 => ?_) (by kernel_rfl) (by kernel_rfl)
  refine wpAny_ite_true (by kernel_rfl) ?_
  refine leafb (y := yB w sl s) X4 299 [.o 0, .o 0, .o 0, .o 0] _ _ (#[b1, b2], [(.bytes b1 t1, none), (.bytes b2 t2, none)]) S3 ht3 rfl (fun h4 tk4 S4 ht4 => ?_) (by kernel_rfl) (by kernel_rfl)
  have S4' := S4.cast (own' := [(a, PySem.W.listOf #[.bytes b1 t1, .bytes b2 t2] n)]) (c' := 0) (by kernel_rfl) (by kernel_rfl)
  refine wpAny_bind (wpAny_of_eq (a := #[]) (by kernel_rfl) ?_)
  refine wpAny_ite_false ?tl ?_
  case tl =>
    refine decide_eq_false ?_
    show ¬ decide (0 * 1 + b1.size + b2.size > sizeLine) = true
    rw [sizeLine_eq]
    simp only [decide_eq_true_eq]
    omega
  have ej : (Builtin.Bytes.joined #[] [b1, b2]).toList = b1.toList ++ b2.toList := by simp [Builtin.Bytes.joined]
  refine wpAny_bind (wpAny_mkBytes ?_ ?sz)
  case sz =>
    show (Builtin.Bytes.joined #[] [b1, b2]).size ≤ _
    rw [← Array.length_toList, ej, sizeLine_eq]
    simp only [List.length_append, Array.length_toList]
    omega
  refine wpAny_bind (wpAny_holding (wpAny_point ?_))
  have f6 := fin h4 S4'
  refine leafb (y := yB w sl s) X4 199 [] (nst [(a, PySem.W.listOf #[.bytes b1 t1, .bytes b2 t2] n)] 0 (tk4 + 1)) _ () S4' rfl rfl (fun h6 tk6 S6 ht6 => ?_) (by kernel_rfl) (by kernel_rfl)
  have f6 := fin h6 (S6.cast (by kernel_rfl) (by kernel_rfl))
  exact wpAny_pure (hQ _ _ h6 tk6 ej f6.1 f6.2)
theorem bjoin3 {w : World} {a : Addr} {t : Tok} {b1 b2 b3 : Array UInt8} {t1 t2 t3 : Tok} {n : Nat} {A : Around} {E : Value → Shared → Prop} {s : Shared} {h₀ : Heap} {L : Addr} {m : Str → Option Value} {news : List (Addr × Obj)} {p : Program} {loose : List Str} {mean : ExcName → Option Value} {mg mb : Str → Option Value} {Q : Value → Shared → Prop}
    (F : Fr h₀ L s.heap m) (X : (hd.heap_39 w.params).In h₀) (N : News h₀ L s.heap news) (T : Top p loose mean mg mb h₀) (hm : (a, PySem.W.listOf #[.bytes b1 t1, .bytes b2 t2, .bytes b3 t3] n) ∈ news) (hz : b1.size + b2.size + b3.size ≤ 300000)
    (hQ : ∀ x t' h' tk', x.toList = b1.toList ++ b2.toList ++ b3.toList → Fr h₀ L h' m → News h₀ L h' news → Q (.bytes x t') { s with heap := h', toks := tk' }) : wpAny (model PySem.Challenge.rw_il0164_01.row.prog w) A (call (.builtin "bytes.join") [.bytes #[] t, .ref a]) Q E s := by
  obtain ⟨sl, X4⟩ := x4_of X T
  have hin : ∀ p ∈ [(a, PySem.W.listOf #[.bytes b1 t1, .bytes b2 t2, .bytes b3 t3] n)], p ∈ news := fun p hp => by rw [List.mem_singleton.mp hp]; exact hm
  have S := Sat.led F N hin (by simp)
  have fin : ∀ h', Sat s.heap.objs.size s.heap h₀ 0 [(a, PySem.W.listOf #[.bytes b1 t1, .bytes b2 t2, .bytes b3 t3] n)] h' → Fr h₀ L h' m ∧ News h₀ L h' news := fun h' S' => by
    have keep := Sat.same (fun p hp => (N p (hin p hp)).1) S'
    exact ⟨F.kept keep, N.grown keep⟩
  refine wpAny_call (go_again (y := yB w sl s) X4 99 [] (nst [(a, PySem.W.listOf #[.bytes b1 t1, .bytes b2 t2, .bytes b3 t3] n)] 0 s.toks) _ (c' := .builtin "bytes.join" ⟨[.bytes #[] t, .ref a], []⟩) S rfl rfl (by kernel_rfl) (fun h1 tk1 S1 ht1 => ?_) (by kernel_rfl) (by kernel_rfl))
  refine go_e (b := PySem.Builtin.«bytes.join») (entryFor_of_tree (by kernel_rfl)) ?_
  show wpAny _ _ (Builtin.Bytes.joinM .bytes ⟨[.bytes #[] t, .ref a], []⟩) _ _ _
  unfold Builtin.Bytes.joinM
  refine wpAny_bind (wpAny_of_eq (a := (Value.bytes #[] t, Value.ref a)) (by kernel_rfl) ?_)
  refine leafb (y := yB w sl s) X4 99 [.o 0] _ _ (.ref a) S1 ht1 rfl (fun h2 tk2 S2 ht2 => ?_) (by kernel_rfl) (by kernel_rfl)
  refine leafb (y := yB w sl s) X4 99 [.o 0] _ _ (some #[.bytes b1 t1, .bytes b2 t2, .bytes b3 t3]) S2 ht2 rfl (fun h3 tk3 S3 ht3 => ?_) (by kernel_rfl) (by kernel_rfl)
  refine wpAny_ite_true (by kernel_rfl) ?_
  refine leafb (y := yB w sl s) X4 299 [.o 0, .o 0, .o 0, .o 0, .o 0, .o 0] _ _ (#[b1, b2, b3], [(.bytes b1 t1, none), (.bytes b2 t2, none), (.bytes b3 t3, none)]) S3 ht3 rfl (fun h4 tk4 S4 ht4 => ?_) (by kernel_rfl) (by kernel_rfl)
  have S4' := S4.cast (own' := [(a, PySem.W.listOf #[.bytes b1 t1, .bytes b2 t2, .bytes b3 t3] n)]) (c' := 0) (by kernel_rfl) (by kernel_rfl)
  refine wpAny_bind (wpAny_of_eq (a := #[]) (by kernel_rfl) ?_)
  refine wpAny_ite_false ?tl ?_
  case tl =>
    refine decide_eq_false ?_
    show ¬ decide (0 * 2 + b1.size + b2.size + b3.size > sizeLine) = true
    rw [sizeLine_eq]
    simp only [decide_eq_true_eq]
    omega
  have ej : (Builtin.Bytes.joined #[] [b1, b2, b3]).toList = b1.toList ++ b2.toList ++ b3.toList := by simp [Builtin.Bytes.joined]
  refine wpAny_bind (wpAny_mkBytes ?_ ?sz)
  case sz =>
    show (Builtin.Bytes.joined #[] [b1, b2, b3]).size ≤ _
    rw [← Array.length_toList, ej, sizeLine_eq]
    simp only [List.length_append, Array.length_toList]
    omega
  refine wpAny_bind (wpAny_holding (wpAny_point ?_))
  have f6 := fin h4 S4'
  refine leafb (y := yB w sl s) X4 199 [] (nst [(a, PySem.W.listOf #[.bytes b1 t1, .bytes b2 t2, .bytes b3 t3] n)] 0 (tk4 + 1)) _ () S4' rfl rfl (fun h6 tk6 S6 ht6 => ?_) (by kernel_rfl) (by kernel_rfl)
  have f6 := fin h6 (S6.cast (by kernel_rfl) (by kernel_rfl))
  exact wpAny_pure (hQ _ _ h6 tk6 ej f6.1 f6.2)
theorem bjoin4 {w : World} {a : Addr} {t : Tok} {b1 b2 b3 b4 : Array UInt8} {t1 t2 t3 t4 : Tok} {n : Nat} {A : Around} {E : Value → Shared → Prop} {s : Shared} {h₀ : Heap} {L : Addr} {m : Str → Option Value} {news : List (Addr × Obj)} {p : Program} {loose : List Str} {mean : ExcName → Option Value} {mg mb : Str → Option Value} {Q : Value → Shared → Prop}
    (F : Fr h₀ L s.heap m) (X : (hd.heap_39 w.params).In h₀) (N : News h₀ L s.heap news) (T : Top p loose mean mg mb h₀) (hm : (a, PySem.W.listOf #[.bytes b1 t1, .bytes b2 t2, .bytes b3 t3, .bytes b4 t4] n) ∈ news) (hz : b1.size + b2.size + b3.size + b4.size ≤ 300000)
    (hQ : ∀ x t' h' tk', x.toList = b1.toList ++ b2.toList ++ b3.toList ++ b4.toList → Fr h₀ L h' m → News h₀ L h' news → Q (.bytes x t') { s with heap := h', toks := tk' }) : wpAny (model PySem.Challenge.rw_il0164_01.row.prog w) A (call (.builtin "bytes.join") [.bytes #[] t, .ref a]) Q E s := by
  obtain ⟨sl, X4⟩ := x4_of X T
  have hin : ∀ p ∈ [(a, PySem.W.listOf #[.bytes b1 t1, .bytes b2 t2, .bytes b3 t3, .bytes b4 t4] n)], p ∈ news := fun p hp => by rw [List.mem_singleton.mp hp]; exact hm
  have S := Sat.led F N hin (by simp)
  have fin : ∀ h', Sat s.heap.objs.size s.heap h₀ 0 [(a, PySem.W.listOf #[.bytes b1 t1, .bytes b2 t2, .bytes b3 t3, .bytes b4 t4] n)] h' → Fr h₀ L h' m ∧ News h₀ L h' news := fun h' S' => by
    have keep := Sat.same (fun p hp => (N p (hin p hp)).1) S'
    exact ⟨F.kept keep, N.grown keep⟩
  refine wpAny_call (go_again (y := yB w sl s) X4 99 [] (nst [(a, PySem.W.listOf #[.bytes b1 t1, .bytes b2 t2, .bytes b3 t3, .bytes b4 t4] n)] 0 s.toks) _ (c' := .builtin "bytes.join" ⟨[.bytes #[] t, .ref a], []⟩) S rfl rfl (by kernel_rfl) (fun h1 tk1 S1 ht1 => ?_) (by kernel_rfl) (by kernel_rfl))
  refine go_e (b := PySem.Builtin.«bytes.join») (entryFor_of_tree (by kernel_rfl)) ?_
  show wpAny _ _ (Builtin.Bytes.joinM .bytes ⟨[.bytes #[] t, .ref a], []⟩) _ _ _
  unfold Builtin.Bytes.joinM
  refine wpAny_bind (wpAny_of_eq (a := (Value.bytes #[] t, Value.ref a)) (by kernel_rfl) ?_)
  refine leafb (y := yB w sl s) X4 99 [.o 0] _ _ (.ref a) S1 ht1 rfl (fun h2 tk2 S2 ht2 => ?_) (by kernel_rfl) (by kernel_rfl)
  refine leafb (y := yB w sl s) X4 99 [.o 0] _ _ (some #[.bytes b1 t1, .bytes b2 t2, .bytes b3 t3, .bytes b4 t4]) S2 ht2 rfl (fun h3 tk3 S3 ht3 => ?_) (by kernel_rfl) (by kernel_rfl)
  refine wpAny_ite_true (by kernel_rfl) ?_
  refine leafb (y := yB w sl s) X4 299 [.o 0, .o 0, .o 0, .o 0, .o 0, .o 0, .o 0, .o 0] _ _ (#[b1, b2, b3, b4], [(.bytes b1 t1, none), (.bytes b2 t2, none), (.bytes b3 t3, none), (.bytes b4 t4, none)]) S3 ht3 rfl (fun h4 tk4 S4 ht4 => ?_) (by kernel_rfl) (by kernel_rfl)
  have S4' := S4.cast (own' := [(a, PySem.W.listOf #[.bytes b1 t1, .bytes b2 t2, .bytes b3 t3, .bytes b4 t4] n)]) (c' := 0) (by kernel_rfl) (by kernel_rfl)
  refine wpAny_bind (wpAny_of_eq (a := #[]) (by kernel_rfl) ?_)
  refine wpAny_ite_false ?tl ?_
  case tl =>
    refine decide_eq_false ?_
    show ¬ decide (0 * 3 + b1.size + b2.size + b3.size + b4.size > sizeLine) = true
    rw [sizeLine_eq]
    simp only [decide_eq_true_eq]
    omega
  have ej : (Builtin.Bytes.joined #[] [b1, b2, b3, b4]).toList = b1.toList ++ b2.toList ++ b3.toList ++ b4.toList := by simp [Builtin.Bytes.joined]
  refine wpAny_bind (wpAny_mkBytes ?_ ?sz)
  case sz =>
    show (Builtin.Bytes.joined #[] [b1, b2, b3, b4]).size ≤ _
    rw [← Array.length_toList, ej, sizeLine_eq]
    simp only [List.length_append, Array.length_toList]
    omega
  refine wpAny_bind (wpAny_holding (wpAny_point ?_))
  have f6 := fin h4 S4'
  refine leafb (y := yB w sl s) X4 199 [] (nst [(a, PySem.W.listOf #[.bytes b1 t1, .bytes b2 t2, .bytes b3 t3, .bytes b4 t4] n)] 0 (tk4 + 1)) _ () S4' rfl rfl (fun h6 tk6 S6 ht6 => ?_) (by kernel_rfl) (by kernel_rfl)
  have f6 := fin h6 (S6.cast (by kernel_rfl) (by kernel_rfl))
  exact wpAny_pure (hQ _ _ h6 tk6 ej f6.1 f6.2)
theorem bjoin5 {w : World} {a : Addr} {t : Tok} {b1 b2 b3 b4 b5 : Array UInt8} {t1 t2 t3 t4 t5 : Tok} {n : Nat} {A : Around} {E : Value → Shared → Prop} {s : Shared} {h₀ : Heap} {L : Addr} {m : Str → Option Value} {news : List (Addr × Obj)} {p : Program} {loose : List Str} {mean : ExcName → Option Value} {mg mb : Str → Option Value} {Q : Value → Shared → Prop}
    (F : Fr h₀ L s.heap m) (X : (hd.heap_39 w.params).In h₀) (N : News h₀ L s.heap news) (T : Top p loose mean mg mb h₀) (hm : (a, PySem.W.listOf #[.bytes b1 t1, .bytes b2 t2, .bytes b3 t3, .bytes b4 t4, .bytes b5 t5] n) ∈ news) (hz : b1.size + b2.size + b3.size + b4.size + b5.size ≤ 300000)
    (hQ : ∀ x t' h' tk', x.toList = b1.toList ++ b2.toList ++ b3.toList ++ b4.toList ++ b5.toList → Fr h₀ L h' m → News h₀ L h' news → Q (.bytes x t') { s with heap := h', toks := tk' }) : wpAny (model PySem.Challenge.rw_il0164_01.row.prog w) A (call (.builtin "bytes.join") [.bytes #[] t, .ref a]) Q E s := by
  obtain ⟨sl, X4⟩ := x4_of X T
  have hin : ∀ p ∈ [(a, PySem.W.listOf #[.bytes b1 t1, .bytes b2 t2, .bytes b3 t3, .bytes b4 t4, .bytes b5 t5] n)], p ∈ news := fun p hp => by rw [List.mem_singleton.mp hp]; exact hm
  have S := Sat.led F N hin (by simp)
  have fin : ∀ h', Sat s.heap.objs.size s.heap h₀ 0 [(a, PySem.W.listOf #[.bytes b1 t1, .bytes b2 t2, .bytes b3 t3, .bytes b4 t4, .bytes b5 t5] n)] h' → Fr h₀ L h' m ∧ News h₀ L h' news := fun h' S' => by
    have keep := Sat.same (fun p hp => (N p (hin p hp)).1) S'
    exact ⟨F.kept keep, N.grown keep⟩
  refine wpAny_call (go_again (y := yB w sl s) X4 99 [] (nst [(a, PySem.W.listOf #[.bytes b1 t1, .bytes b2 t2, .bytes b3 t3, .bytes b4 t4, .bytes b5 t5] n)] 0 s.toks) _ (c' := .builtin "bytes.join" ⟨[.bytes #[] t, .ref a], []⟩) S rfl rfl (by kernel_rfl) (fun h1 tk1 S1 ht1 => ?_) (by kernel_rfl) (by kernel_rfl))
  refine go_e (b := PySem.Builtin.«bytes.join») (entryFor_of_tree (by kernel_rfl)) ?_
  show wpAny _ _ (Builtin.Bytes.joinM .bytes ⟨[.bytes #[] t, .ref a], []⟩) _ _ _
  unfold Builtin.Bytes.joinM
  refine wpAny_bind (wpAny_of_eq (a := (Value.bytes #[] t, Value.ref a)) (by kernel_rfl) ?_)
  refine leafb (y := yB w sl s) X4 99 [.o 0] _ _ (.ref a) S1 ht1 rfl (fun h2 tk2 S2 ht2 => ?_) (by kernel_rfl) (by kernel_rfl)
  refine leafb (y := yB w sl s) X4 99 [.o 0] _ _ (some #[.bytes b1 t1, .bytes b2 t2, .bytes b3 t3, .bytes b4 t4, .bytes b5 t5]) S2 ht2 rfl (fun h3 tk3 S3 ht3 => ?_) (by kernel_rfl) (by kernel_rfl)
  refine wpAny_ite_true (by kernel_rfl) ?_
  refine leafb (y := yB w sl s) X4 299 [.o 0, .o 0, .o 0, .o 0, .o 0, .o 0, .o 0, .o 0, .o 0, .o 0] _ _ (#[b1, b2, b3, b4, b5], [(.bytes b1 t1, none), (.bytes b2 t2, none), (.bytes b3 t3, none), (.bytes b4 t4, none), (.bytes b5 t5, none)]) S3 ht3 rfl (fun h4 tk4 S4 ht4 => ?_) (by kernel_rfl) (by kernel_rfl)
  have S4' := S4.cast (own' := [(a, PySem.W.listOf #[.bytes b1 t1, .bytes b2 t2, .bytes b3 t3, .bytes b4 t4, .bytes b5 t5] n)]) (c' := 0) (by kernel_rfl) (by kernel_rfl)
  refine wpAny_bind (wpAny_of_eq (a := #[]) (by kernel_rfl) ?_)
  refine wpAny_ite_false ?tl ?_
  case tl =>
    refine decide_eq_false ?_
    show ¬ decide (0 * 4 + b1.size + b2.size + b3.size + b4.size + b5.size > sizeLine) = true
    rw [sizeLine_eq]
    simp only [decide_eq_true_eq]
    omega
  have ej : (Builtin.Bytes.joined #[] [b1, b2, b3, b4, b5]).toList = b1.toList ++ b2.toList ++ b3.toList ++ b4.toList ++ b5.toList := by simp [Builtin.Bytes.joined]
  refine wpAny_bind (wpAny_mkBytes ?_ ?sz)
  case sz =>
    show (Builtin.Bytes.joined #[] [b1, b2, b3, b4, b5]).size ≤ _
    rw [← Array.length_toList, ej, sizeLine_eq]
    simp only [List.length_append, Array.length_toList]
    omega
  refine wpAny_bind (wpAny_holding (wpAny_point ?_))
  have f6 := fin h4 S4'
  refine leafb (y := yB w sl s) X4 199 [] (nst [(a, PySem.W.listOf #[.bytes b1 t1, .bytes b2 t2, .bytes b3 t3, .bytes b4 t4, .bytes b5 t5] n)] 0 (tk4 + 1)) _ () S4' rfl rfl (fun h6 tk6 S6 ht6 => ?_) (by kernel_rfl) (by kernel_rfl)
  have f6 := fin h6 (S6.cast (by kernel_rfl) (by kernel_rfl))
  exact wpAny_pure (hQ _ _ h6 tk6 ej f6.1 f6.2)
end
-- Words
section
theorem CallsTo.mono {w : World} {f : Addr} {vs : List Value} {kw : List (Str × Value)} {deep units : Nat} {post post' : Heap → Addr → (Str → Option Value) → List (Addr × Obj) → Shared → (Value → Shared → Prop) → Prop} (C : CallsTo w f vs kw deep units post) (h : ∀ a b c d e Q, post' a b c d e Q → post a b c d e Q) : CallsTo w f vs kw deep units post' :=
  fun p loose mean mg mb dp un gd cn cs a ccd cl outer A₀ base h₀ L m news s Q E B F X N T hk hd hu hp => C p loose mean mg mb dp un gd cn cs a ccd cl outer A₀ base h₀ L m news s Q E B F X N T hk hd hu (h _ _ _ _ _ _ hp)
def octsN (b : Array UInt8) : List Nat := b.toList.map (·.toNat)
theorem qword_len (l : List Nat) : (qword l).length ≤ 8 + 3 * l.length := by
  have := qrow_len l
  unfold qword
  simp only [List.length_append, List.length_cons, List.length_nil]
  omega
theorem henc_b {w : World} (b : Array UInt8) (tb tx : Tok) (hb : 0 < b.size) (hs : b.size ≤ 300000) : CallsTo w 104 [.bytes b tb, .str (Str.ofString "x") tx] [] 4 40 (RetsStr (fun x => x.cps.toList = qword (octsN b) ∧ x.length ≤ 8 + 3 * b.size)) :=
  (henc b tb tx hb hs).mono fun a b' c d e Q hp x t h' tk' hx F N => hp x t h' tk' ⟨hx, by
    show x.cps.size ≤ _
    rw [← Array.length_toList, hx]
    have := qword_len (b.toList.map (·.toNat))
    simp only [List.length_map, Array.length_toList] at this
    exact this⟩ F N
def bcps (b : Array UInt8) : List Nat := (b64q (KBw.bInts b)).map Int.toNat
theorem bInts_octs (b : Array UInt8) : octs (KBw.bInts b) := by
  intro n hn
  unfold KBw.bInts at hn
  obtain ⟨u, _, rfl⟩ := List.mem_map.mp hn
  have := u.toNat_lt
  omega
theorem b64at_lt (v : Int) : b64at v < 128 := by
  unfold b64at
  have : ∀ n, (b64tab.getD n 0).toNat < 128 := fun n => by
    by_cases h : n < 64
    · revert h; revert n; decide +kernel
    · have : b64tab.getD n 0 = 0 := by
        have hl : b64tab.length = 64 := rfl
        rw [List.getD_eq_getElem?_getD, List.getElem?_eq_none (by omega)]
        rfl
      rw [this]; decide
  have := this v.toNat
  omega
theorem b64q_ascii : ∀ (ks : List Int), ∀ n ∈ b64q ks, 0 ≤ n ∧ n < 128
  | [], n, h => by simp [b64q] at h
  | [a], n, h => by
    simp only [b64q, List.mem_cons, List.not_mem_nil, or_false] at h
    rcases h with rfl | rfl | rfl | rfl
    · exact ⟨(b64at_range _).1, b64at_lt _⟩
    · exact ⟨(b64at_range _).1, b64at_lt _⟩
    · decide
    · decide
  | [a, b], n, h => by
    simp only [b64q, List.mem_cons, List.not_mem_nil, or_false] at h
    rcases h with rfl | rfl | rfl | rfl
    · exact ⟨(b64at_range _).1, b64at_lt _⟩
    · exact ⟨(b64at_range _).1, b64at_lt _⟩
    · exact ⟨(b64at_range _).1, b64at_lt _⟩
    · decide
  | a :: b :: c :: r, n, h => by
    have ih := b64q_ascii r n
    simp only [b64q, List.cons_append, List.nil_append, List.mem_cons] at h
    rcases h with rfl | rfl | rfl | rfl | h
    · exact ⟨(b64at_range _).1, b64at_lt _⟩
    · exact ⟨(b64at_range _).1, b64at_lt _⟩
    · exact ⟨(b64at_range _).1, b64at_lt _⟩
    · exact ⟨(b64at_range _).1, b64at_lt _⟩
    · exact ih h
theorem b64e_b {w : World} (b : Array UInt8) (tb : Tok) (hb : 0 < b.size) (hs : b.size ≤ 300000) : CallsTo w 68 [.bytes b tb] [] 8 80 (RetsBytes (fun x => x.toList.map (·.toNat) = bcps b ∧ (x.size : Int) = 4 * (((b.size : Int) + 2) / 3) ∧ ∀ p, p < x.size → (x.getD p 0).toNat < 128)) :=
  (b64e b tb hs).mono fun a b' c d e Q hp x t h' tk' hx F N => hp x t h' tk' (by
    have e1 : x = byteArr (b64q (KBw.bInts b)) := by rw [hx, b64out_q _ (bInts_octs b)]
    have e2 : x.toList.map (·.toNat) = bcps b := by
      rw [e1]
      unfold byteArr bcps
      simp only [List.map_map]
      refine List.map_congr_left fun n hn => ?_
      have := b64q_ascii _ n hn
      show (n.toNat.toUInt8).toNat = n.toNat
      rw [UInt8.toNat_ofNat']
      omega
    refine ⟨e2, ?_, fun p hp => ?_⟩
    · have h1 := congrArg List.length e2
      simp only [List.length_map, Array.length_toList, bcps] at h1
      have h2 := b64q_len (KBw.bInts b)
      rw [KBw.ints_length] at h2
      omega
    · have h3 : (x.getD p 0).toNat ∈ x.toList.map (·.toNat) := by
        refine List.mem_map.mpr ⟨x.getD p 0, ?_, rfl⟩
        have : x.getD p 0 = x[p] := by simp [Array.getD, hp]
        rw [this]
        exact Array.getElem_mem_toList hp
      rw [e2] at h3
      obtain ⟨n, hn, e4⟩ := List.mem_map.mp h3
      have := b64q_ascii _ n hn
      omega) F N
end
-- Gtail
section
theorem len_e : (Str.ofString "").length = 0 := by decide +kernel
theorem len_6 : (Str.ofString "=?x?b?").length = 6 := by decide +kernel
theorem len_2 : (Str.ofString "?=").length = 2 := by decide +kernel
theorem len_1 : (Str.ofString " ").length = 1 := by decide +kernel
section
variable {prog : Program} {w : World} {A : Around} {E : Value → Shared → Prop} {s : Shared}
theorem add_s {x y : Str} {t u : Tok} {Q : Value → Shared → Prop} (hz : x.length + y.length ≤ 16777216) (h : ∀ (z : Str) t' k, z.cps.toList = x.cps.toList ++ y.cps.toList → z.length = x.length + y.length → Q (.str z t') { s with toks := k }) : wpAny (model prog w) A (binaryOp .Add (.str x t) (.str y u)) Q E s :=
  KOpn.add hz fun t' k hl => h (x ++ y) t' k (by rw [Str.cps_append, Array.toList_append]) (Nat.le_antisymm hl.2 hl.1)
theorem decode_s {b : Array UInt8} {t t2 : Tok} {Q : Value → Shared → Prop} (hb : 0 < b.size) (hs : b.size ≤ 1000000) (ha : ∀ p, p < b.size → (b.getD p 0).toNat < 128) (h : ∀ (z : Str) t' k, z.cps.toList = b.toList.map (·.toNat) → z.length = b.size → Q (.str z t') { s with toks := k }) :
    wpAny (model prog w) A (call (.builtin "bytes.decode") [.bytes b t, .str (Str.ofString "ascii") t2]) Q E s :=
  decode_ascii hb hs ha fun t' k => h _ t' k (by simp) (by show (b.map _).size = _; simp)
end
theorem cps_6 : (Str.ofString "=?x?b?").cps.toList = [61, 63, 120, 63, 98, 63] := by decide +kernel
theorem cps_2 : (Str.ofString "?=").cps.toList = [63, 61] := by decide +kernel
theorem z2_is {a x y d z : Str} {row : Array UInt8} {db : Array UInt8} (h1 : x.cps.toList = a.cps.toList ++ (Str.ofString "=?x?b?").cps.toList) (h2 : y.cps.toList = x.cps.toList ++ d.cps.toList) (h3 : z.cps.toList = y.cps.toList ++ (Str.ofString "?=").cps.toList) (hd : d.cps.toList = db.toList.map (·.toNat)) (hb : db.toList.map (·.toNat) = bcps row) :
    z.cps.toList = a.cps.toList ++ ([61, 63, 120, 63, 98, 63] ++ bcps row ++ [63, 61]) := by
  rw [h3, h2, h1, hd, hb, cps_6, cps_2]; simp
theorem unr_end1 {h₀ : Heap} {L I D : Addr} {it oD : Obj} {rest : (Str → Option Value) → List (Addr × Obj) → Prop} {s₁ : Shared} {h' : Heap} {tk : Nat} {m' : Str → Option Value} {news' : List (Addr × Obj)} (F : Fr h₀ L h' m') (N : News h₀ L h' ((D, oD) :: (I, it) :: news'))
    (off : ∀ p ∈ news', p.1 ≠ I) (r : rest m' news') : UnrEnd h₀ L s₁ I it rest { s₁ with heap := h', toks := tk } := UnrEnd.intro F N news' (fun p hp => .tail _ hp) off r
theorem offs {I : Addr} {l : List (Addr × Obj)} (h : AllLt I l) : ∀ p ∈ l, p.1 ≠ I := fun p hp => Nat.ne_of_lt (kst_ltOf h p hp)
noncomputable def grFxO (o : Obj) : Str × Arguments × List Stmt × Scope := match o with
  | ⟨_, _, .func fd, _⟩ => match fd.body with
    | .stmts (_ :: .FunctionDef x y z _ _ _ d .. :: _) => (x, y, z, d)
    | _ => default
  | _ => default
noncomputable def grFx (p : Params) : Str × Arguments × List Stmt × Scope := match (hd.heap_39 p).lookup 153 with | some o => grFxO o | none => default
theorem gr_via {w : World} {o : Obj} (P : (Str × Arguments × List Stmt × Scope) → Prop) (h : (hd.heap_39 w.params).lookup 153 = some o) (hp : P (grFxO o)) : P (grFx w.params) := by
  unfold grFx; rw [h]; exact hp
abbrev grQ : Str := Str.ofString "_law_best.<locals>.grown"
abbrev grObj (fx : Str × Arguments × List Stmt × Scope) (cP cC cg : Addr) (doc pm ctv : Value) : Obj := fnMade fx.1 grQ fx.2.1 fx.2.2.1 fx.2.2.2 [(Str.ofString "parts", cP), (Str.ofString "comparer", cC)] doc pm cg ctv
def grTail (fx : Str × Arguments × List Stmt × Scope) : List Stmt := match fx.2.2.1 with
  | _ :: .For _ _ b .. :: _ => b.drop 2
  | _ => []
def GTail (w : World) (fx : Str × Arguments × List Stmt × Scope) : Prop :=
  ∀ (p : Program) (loose : List Str) (mean : ExcName → Option Value) (mg mb : Str → Option Value) (dp un : Nat) (gd : Option (List Code)) (cn : Str) (cs : Scope) (a : Addr) (ccd : Value) (cl : List (Str × Addr)) (outer : List Env) (base h₀ : Heap) (L' Lo : Addr) (m : Str → Option Value) (rest : List (Addr × Obj)) (s : Shared) (E : Value → Shared → Prop) (Q : Flow → Shared → Prop)
    (fg cg cP cC l : Addr) (ah : Str) (row : Array UInt8) (ta tr : Tok) (A : Array Value) (n : Nat),
    Below (ktrTop dp un gd cn cs Lo a ccd cl outer) base (envX cn cs Lo a ccd cl :: outer) h₀ → Fr h₀ L' s.heap m → (hd.heap_39 w.params).In h₀ → News h₀ L' s.heap ((l, PySem.W.listOf A n) :: rest) → (∀ p ∈ rest, p.1 ≠ l) → A.size ≤ 1000 → Top p loose mean mg mb h₀ →
    dp + 20 < recursionLimit → un + 200 < cLine → m (Str.ofString "found") = some (.ref l) → m (Str.ofString "ahead") = some (.str ah ta) → m (Str.ofString "row") = some (.bytes row tr) → 0 < row.size → row.size ≤ 200 → ah.length ≤ 10000 →
    (∀ z1 z2 t1 t2 n' h' tk', z1.cps.toList = ah.cps.toList ++ qword (octsN row) → z2.cps.toList = ah.cps.toList ++ ([61, 63, 120, 63, 98, 63] ++ bcps row ++ [63, 61]) → z1.length ≤ 20000 → z2.length ≤ 20000 → Fr h₀ L' h' m → News h₀ L' h' ((l, PySem.W.listOf ((A.push (.str z1 t1)).push (.str z2 t2)) n') :: rest) → Q .next { s with heap := h', toks := tk' }) →
    wpAny (model PySem.Challenge.rw_il0164_01.row.prog w) ((ktrTop dp un gd cn cs Lo a ccd cl outer).deeper (envX grQ fx.2.2.2 L' fg (.ref cg) [(Str.ofString "parts", cP), (Str.ofString "comparer", cC)])) (execs (grTail fx) (envX grQ fx.2.2.2 L' fg (.ref cg) [(Str.ofString "parts", cP), (Str.ofString "comparer", cC)])) Q E s
theorem gtail (w : World) : GTail w (grFx w.params) := by
  unfold GTail
  k_fill
  show GTail w (grFx w.params)
  refine gr_via (GTail w) (by k_is) ?_
  unfold GTail
  dsimp only [grFxO, grTail, List.drop_succ_cons, List.drop_zero]
  intro p loose mean mg mb dp un gd cn cs a ccd cl outer base h₀ L' Lo m rest s E Q fg cg cP cC l ah row ta tr A n B F X N off hA T hd hu hf ha hr hz0 hz1 hah hQ
  repeat' (first | ((with_reducible show wpAny _ _ (call _ _ _) _ _ _); first | ((with_reducible show wpAny _ _ (call (Value.ref 104) _ _) _ _ _); refine use_call (henc_b _ _ _ (by omega) (by omega)) (by k_asm) (by k_asm) (by k_asm) (by k_asm) (by k_asm) (by first | exact rfl | assumption) (by ktr_room) (by ktr_units) ?_; intro ix it ih itk iP iF iN; (obtain ⟨iPc, iPl⟩ := iP); (try dsimp only at iPl); (try k_fold)) | ((with_reducible show wpAny _ _ (call (Value.ref 68) _ _) _ _ _); refine use_call (b64e_b _ _ (by omega) (by omega)) (by k_asm) (by k_asm) (by k_asm) (by k_asm) (by k_asm) (by first | exact rfl | assumption) (by ktr_room) (by ktr_units) ?_; intro ix it ih itk iP iF iN; (obtain ⟨iBc, iBl, iBa⟩ := iP); (try k_fold)) | ((with_reducible show wpAny _ _ (call (Value.builtin "bytes.decode") [Value.bytes _ _, Value.str _ _]) _ _ _); refine decode_s (by omega) (by omega) (by with_reducible assumption) ?_; intro iz it ik izc izl) | fail) | ((with_reducible show wpAny _ _ (binaryOp _ (Value.str _ _) (Value.str _ _)) _ _ _); refine add_s (by (try simp only [len_e, len_6, len_2, len_1]); omega) ?_; (intro iz it ik izc izl); (try simp only [len_e, len_6, len_2, len_1] at izl)) | ((with_reducible first | refine isN "header_encode" ?_ | refine isN "b64encode" ?_); refine nameX_K (by k_asm) (by k_asm) (by exact topRead_of (by k_asm)) (by k_is) ?_ (by exact rfl) (by kernel_rfl) (by decide)) | walk_at "ONE")
  refine' hQ _ _ _ _ _ _ _ ?e1 ?e2 ?l1 ?l2 ?F ?N
  case N => assumption
  case F => assumption
  case e1 => exact Eq.trans (by assumption) (congrArg (ah.cps.toList ++ ·) (by assumption))
  case e2 => exact z2_is (by assumption) (by assumption) (by assumption) (by assumption) (by assumption)
  case l1 => omega
  case l2 => omega
end
-- Gen1
section
abbrev bytV (p : Array UInt8 × Tok) : Value := .bytes p.1 p.2
section
variable {prog : Program} {w : World} {A : Around} {E : Value → Shared → Prop} {s : Shared} {env : Env} {h₀ : Heap} {x : Str} {body : List Stmt} {Q : Flow → Shared → Prop}
theorem UnrPost.mono {L : Addr} {s₁ : Shared} {I : Addr} {it : Obj} {r r' : (Str → Option Value) → List (Addr × Obj) → Prop} (hr : ∀ m n, r m n → r' m n) {f : Flow} {s₂ : Shared} (h : UnrPost h₀ L s₁ I it r Q f s₂) : UnrPost h₀ L s₁ I it r' Q f s₂ := by
  have go : UnrEnd h₀ L s₁ I it r s₂ → UnrEnd h₀ L s₁ I it r' s₂ := fun ⟨h', tk, m', n', a, b, c, d, e⟩ => ⟨h', tk, m', n', a, b, c, d, hr _ _ e⟩
  cases f with
  | ret v => exact h
  | brk => exact h
  | next => exact go h
  | cont => exact go h
theorem rr_ind {I : Addr} {n : Nat} (INV : Nat → (Str → Option Value) → List (Addr × Obj) → Prop)
    (step : ∀ i m news, i < n → INV i m news → ∀ t h tk, Fr h₀ env.locals h (fun y => if y = x then some (.int (i : Int) t) else m y) → News h₀ env.locals h ((I, itR (0 + ((i + 1 : Nat) : Int)) ((n : Int) - ((i + 1 : Nat) : Int))) :: news) →
      wpAny (model prog w) A (execs body env) (UnrPost h₀ env.locals { s with heap := h, toks := tk } I (itR (0 + ((i + 1 : Nat) : Int)) ((n : Int) - ((i + 1 : Nat) : Int))) (INV (i + 1)) Q) E { s with heap := h, toks := tk })
    (fin : ∀ m news h tk, INV n m news → Fr h₀ env.locals h m → News h₀ env.locals h news → Q .next { s with heap := h, toks := tk }) :
    ∀ k i m news, i + k = n → INV i m news → RangeRest prog w A E h₀ env x body Q s I 0 n k i m news := by
  intro k
  induction k with
  | zero =>
    intro i m news e hI
    have : i = n := by omega
    subst this
    exact RangeRest.zero fun h tk F N => fin _ _ h tk hI F N
  | succ k ih =>
    intro i m news e hI
    refine RangeRest.succ fun t h tk F N => ?_
    refine wpAny_mono (step i m news (by omega) hI t h tk (by rw [Int.zero_add] at F; exact F) N) (fun f s₂ p => ?_) fun _ _ e => e
    exact UnrPost.mono (fun m' n' hI' => ih (i + 1) m' n' (by omega) hI') p
end
theorem nm_hit {x : Str} {v : Option Value} {m : Str → Option Value} : (fun y => if y = x then v else m y) x = v := if_pos rfl
theorem nm_skip {x y : Str} {v : Option Value} {m : Str → Option Value} {r : Option Value} (h : y ≠ x) (e : m y = r) : (fun y => if y = x then v else m y) y = r := (if_neg h).trans e
theorem bjoinL {w : World} {a : Addr} {t : Tok} {bs : List (Array UInt8 × Tok)} {n : Nat} {A : Around} {E : Value → Shared → Prop} {s : Shared} {h₀ : Heap} {L : Addr} {m : Str → Option Value} {news : List (Addr × Obj)} {p : Program} {loose : List Str} {mean : ExcName → Option Value} {mg mb : Str → Option Value} {Q : Value → Shared → Prop}
    (F : Fr h₀ L s.heap m) (X : (hd.heap_39 w.params).In h₀) (N : News h₀ L s.heap news) (T : Top p loose mean mg mb h₀) (hm : (a, PySem.W.listOf (bs.map bytV).toArray n) ∈ news) (h0 : 0 < bs.length) (h5 : bs.length ≤ 5) (hz : ∀ b ∈ bs, b.1.size ≤ 60000)
    (hQ : ∀ x t' h' tk', x.toList = bs.flatMap (fun b => b.1.toList) → Fr h₀ L h' m → News h₀ L h' news → Q (.bytes x t') { s with heap := h', toks := tk' }) : wpAny (model PySem.Challenge.rw_il0164_01.row.prog w) A (call (.builtin "bytes.join") [.bytes #[] t, .ref a]) Q E s := by
  match bs, h0, h5, hz, hm, hQ with
  | [b1], _, _, hz, hm, hQ => exact bjoin1 F X N T hm fun x t' h' tk' e => hQ x t' h' tk' (by rw [e]; simp)
  | [b1, b2], _, _, hz, hm, hQ =>
    have z1 := hz b1 (by simp); have z2 := hz b2 (by simp)
    exact bjoin2 F X N T hm (by omega) fun x t' h' tk' e => hQ x t' h' tk' (by rw [e]; simp)
  | [b1, b2, b3], _, _, hz, hm, hQ =>
    have z1 := hz b1 (by simp); have z2 := hz b2 (by simp); have z3 := hz b3 (by simp)
    exact bjoin3 F X N T hm (by omega) fun x t' h' tk' e => hQ x t' h' tk' (by rw [e]; simp)
  | [b1, b2, b3, b4], _, _, hz, hm, hQ =>
    have z1 := hz b1 (by simp); have z2 := hz b2 (by simp); have z3 := hz b3 (by simp); have z4 := hz b4 (by simp)
    exact bjoin4 F X N T hm (by omega) fun x t' h' tk' e => hQ x t' h' tk' (by rw [e]; simp)
  | [b1, b2, b3, b4, b5], _, _, hz, hm, hQ =>
    have z1 := hz b1 (by simp); have z2 := hz b2 (by simp); have z3 := hz b3 (by simp); have z4 := hz b4 (by simp); have z5 := hz b5 (by simp)
    exact bjoin5 F X N T hm (by omega) fun x t' h' tk' e => hQ x t' h' tk' (by rw [e]; simp)
  | _ :: _ :: _ :: _ :: _ :: _ :: _, _, h5, _, _, _ => simp at h5
def bword (l : List Nat) : List Nat := [61, 63, 120, 63, 98, 63] ++ (b64q (l.map Int.ofNat)).map Int.toNat ++ [63, 61]
def rowP (bs : List (Array UInt8 × Tok)) (s e : Nat) : List Nat := ((bs.drop s).take (e - s)).flatMap (fun b => octsN b.1)
def aheadC (ws : List (Str × Tok)) (s : Nat) : List Nat := if s = 0 then [] else (match ws[s]? with | some x => x.1.cps.toList | none => []) ++ [32]
def cand (ws : List (Str × Tok)) (bs : List (Array UInt8 × Tok)) (e s : Nat) (k : Bool) : List Nat := aheadC ws s ++ (if k then qword (rowP bs s e) else bword (rowP bs s e))
def cands (ws : List (Str × Tok)) (bs : List (Array UInt8 × Tok)) (e i : Nat) : List (List Nat) := (List.range i).flatMap fun s => [cand ws bs e s true, cand ws bs e s false]
theorem cands_succ (ws : List (Str × Tok)) (bs : List (Array UInt8 × Tok)) (e i : Nat) : cands ws bs e (i + 1) = cands ws bs e i ++ [cand ws bs e i true, cand ws bs e i false] := by
  unfold cands; rw [List.range_succ, List.flatMap_append]; simp
theorem mem_cands {ws : List (Str × Tok)} {bs : List (Array UInt8 × Tok)} {e i : Nat} {c : List Nat} : c ∈ cands ws bs e i ↔ ∃ s k, s < i ∧ c = cand ws bs e s k := by
  unfold cands
  simp only [List.mem_flatMap, List.mem_range, List.mem_cons, List.not_mem_nil, or_false]
  constructor
  · rintro ⟨s, hs, rfl | rfl⟩
    · exact ⟨s, true, hs, rfl⟩
    · exact ⟨s, false, hs, rfl⟩
  · rintro ⟨s, k, hs, rfl⟩
    cases k
    · exact ⟨s, hs, .inr rfl⟩
    · exact ⟨s, hs, .inl rfl⟩
theorem pick_bs (bs : List (Array UInt8 × Tok)) (s e : Nat) (h : s ≤ e) (h2 : e ≤ bs.length) : (slicePick (bs.map bytV).toArray (some (s : Int)) (some (e : Int)) none).toList = (((bs.drop s).take (e - s)).map bytV) := by
  rw [slicePick_run (bs.map bytV).toArray s e (by simpa using h2) h]
  simp
theorem bcps_oct (b : Array UInt8) : [61, 63, 120, 63, 98, 63] ++ bcps b ++ [63, 61] = bword (octsN b) := by
  unfold bword bcps octsN KBw.bInts
  rw [List.map_map]; rfl
theorem row_octs {bs : List (Array UInt8 × Tok)} {x : Array UInt8} {s e : Nat} (h : x.toList = ((bs.drop s).take (e - s)).flatMap (fun b => b.1.toList)) : octsN x = rowP bs s e := by
  unfold octsN rowP
  rw [h, List.map_flatMap]; rfl
theorem flat_len : ∀ (l : List (Array UInt8 × Tok)) (k : Nat), (∀ b ∈ l, b.1.size ≤ k) → (l.flatMap (fun b => b.1.toList)).length ≤ l.length * k
  | [], _, _ => by simp
  | b :: l, k, h => by
    have h1 := flat_len l k (fun b hb => h b (.tail _ hb))
    have h2 := h b (.head _)
    simp only [List.flatMap_cons, List.length_append, Array.length_toList, List.length_cons, Nat.add_mul, Nat.one_mul]
    omega
theorem row_size {bs : List (Array UInt8 × Tok)} {x : Array UInt8} {s e : Nat} (h : x.toList = ((bs.drop s).take (e - s)).flatMap (fun b => b.1.toList)) (hz : ∀ b ∈ bs, 0 < b.1.size ∧ b.1.size ≤ 40) (hs : s < e) (he : e ≤ bs.length) (h5 : bs.length ≤ 5) : 0 < x.size ∧ x.size ≤ 200 := by
  rw [← Array.length_toList, h]
  have hm : ∀ b ∈ (bs.drop s).take (e - s), b ∈ bs := fun b hb => List.mem_of_mem_drop (List.mem_of_mem_take hb)
  have hl : ((bs.drop s).take (e - s)).length = e - s := by rw [List.length_take, List.length_drop]; omega
  constructor
  · match h : (bs.drop s).take (e - s), hm, hl with
    | [], _, hl => simp at hl; omega
    | b :: r, hm, _ =>
      have := (hz b (hm b (.head _))).1
      simp only [List.flatMap_cons, List.length_append, Array.length_toList]; omega
  · have := flat_len ((bs.drop s).take (e - s)) 40 fun b hb => (hz b (hm b hb)).2
    rw [hl] at this; omega
def BestW (ws : List (Str × Tok)) (bs : List (Array UInt8 × Tok)) (e : Nat) (nw : Str) : Prop := nw.cps.toList ∈ cands ws bs e e ∧ (∀ c ∈ cands ws bs e e, nw.length ≤ c.length) ∧ nw.length ≤ 5000
section
variable {prog : Program} {w : World} {A : Around} {E : Value → Shared → Prop} {s : Shared} {env : Env} {h₀ : Heap} {x : Str} {body : List Stmt} {Q : Flow → Shared → Prop}
theorem rr_ind1 {I l : Addr} {n : Nat} {base : List (Addr × Obj)} {o₀ : Obj} {m₀ : Str → Option Value} (ks : List Str) (INV : Nat → Obj → Prop) (h0 : INV 0 o₀)
    (step : ∀ (i : Nat) (m : Str → Option Value) (o : Obj), i < n → INV i o → (∀ y ∈ ks, m y = m₀ y) → ∀ t h tk, Fr h₀ env.locals h (fun y => if y = x then some (.int (i : Int) t) else m y) → News h₀ env.locals h ((I, itR (0 + ((i + 1 : Nat) : Int)) ((n : Int) - ((i + 1 : Nat) : Int))) :: (l, o) :: base) →
      wpAny (model prog w) A (execs body env) (UnrPost h₀ env.locals { s with heap := h, toks := tk } I (itR (0 + ((i + 1 : Nat) : Int)) ((n : Int) - ((i + 1 : Nat) : Int))) (fun m' n' => ∃ o', n' = (l, o') :: base ∧ (∀ y ∈ ks, m' y = m₀ y) ∧ INV (i + 1) o') Q) E { s with heap := h, toks := tk })
    (fin : ∀ (m : Str → Option Value) (o : Obj) (h : Heap) (tk : Nat), (∀ y ∈ ks, m y = m₀ y) → INV n o → Fr h₀ env.locals h m → News h₀ env.locals h ((l, o) :: base) → Q .next { s with heap := h, toks := tk }) :
    RangeRest prog w A E h₀ env x body Q s I 0 n n 0 m₀ ((l, o₀) :: base) :=
  rr_ind (fun i m news => ∃ o, news = (l, o) :: base ∧ (∀ y ∈ ks, m y = m₀ y) ∧ INV i o)
    (fun i m news hi hI t h tk F N => by
      obtain ⟨o, rfl, hm, hI⟩ := hI
      exact step i m o hi hI hm t h tk F N)
    (fun m news h tk hI F N => by
      obtain ⟨o, rfl, hm, hI⟩ := hI
      exact fin m o h tk hm hI F N) n 0 m₀ _ (by omega) ⟨o₀, rfl, fun _ _ => rfl, h0⟩
end
theorem item_ws {prog : Program} {w : World} {A : Around} {E : Value → Shared → Prop} {s : Shared} {value slice : PySem.Expr} {a : Addr} {ws : List (Str × Tok)} {i : Nat} {u : Tok} {Q : Value → Shared → Prop} (hl : s.heap.IsList a (ws.map strV).toArray) (hi : i < ws.length) (hz : ws.length ≤ 5) (hws : ∀ p ∈ ws, p.1.length ≤ 5000)
    (h : ∀ x t, ws[i]? = some (x, t) → x.length ≤ 5000 → Q (.str x t) s)
    (hs : subscripted slice false (.ref a) (.int (i : Int) u) = operate [.ref a, .int (i : Int) u] (getItem (.ref a) (.int (i : Int) u)) := by with_unfolding_all rfl) (hg : ∀ r, letTemporaryGo value (.ref a) r = pure () := by intro _; with_unfolding_all rfl) :
    wpAny (model prog w) A (subscriptTail value slice (.ref a) (.int (i : Int) u)) Q E s := by
  have e : ws[i]? = some ws[i] := List.getElem?_eq_getElem hi
  exact item_listL hl (by omega) (by omega) (x := .str ws[i].1 ws[i].2) (by rw [Int.toNat_natCast, List.getElem?_map, e]; rfl) (h _ _ e (hws _ (List.getElem_mem hi))) hs hg
section
variable {prog : Program} {w : World} {A : Around} {E : Value → Shared → Prop} {s : Shared} {h₀ : Heap} {L l : Addr} {m : Str → Option Value} {news : List (Addr × Obj)} {value slice : PySem.Expr} {bs : List (Array UInt8 × Tok)} {i e n : Nat} {u v : Tok} {Q : Value → Shared → Prop}
theorem slice_bs (F : Fr h₀ L s.heap m) (N : News h₀ L s.heap news) (hl : (l, PySem.W.listOf (bs.map bytV).toArray n) ∈ news) (h1 : i ≤ e) (h2 : e ≤ bs.length) (h5 : bs.length ≤ 5)
    (h : ∀ D h', Fr h₀ L h' m → News h₀ L h' ((D, PySem.W.listOf (((bs.drop i).take (e - i)).map bytV).toArray 0) :: news) → (∀ p ∈ news, p.1 < D) → Q (.ref D) { s with heap := h' })
    (hs : subscripted slice false (.ref l) (.ref s.heap.objs.size) = operate [.ref s.heap.objs.size, .ref l] (getItem (.ref l) (.ref s.heap.objs.size))) (ht : ∀ r, letTemporaryGo value (.ref l) r = pure ()) :
    wpAny (model prog w) A (subscriptTail value slice (.ref l) (.ref s.heap.objs.size)) Q E { s with heap := s.heap.push { cls := .type "slice", data := .fields #[.int (i : Int) u, .int (e : Int) v, .none] } } :=
  kmk_slice_lit F N (its := (bs.map bytV).toArray) ⟨_, (N _ hl).1, rfl, _, rfl⟩ (IsPart.int _ _) (IsPart.int _ _) (pick_bs bs i e h1 h2) h hs ht (by rw [List.size_toArray, List.length_map, sizeLine_eq]; omega)
end
theorem bz_of {bs : List (Array UInt8 × Tok)} {i k : Nat} (h : ∀ b ∈ bs, 0 < b.1.size ∧ b.1.size ≤ 40) : ∀ b ∈ ((bs.drop i).take k), b.1.size ≤ 60000 := fun b hb => Nat.le_trans (h b (List.mem_of_mem_drop (List.mem_of_mem_take hb))).2 (by decide)
theorem cands_len (ws : List (Str × Tok)) (bs : List (Array UInt8 × Tok)) (e : Nat) : ∀ i, (cands ws bs e i).length = 2 * i
  | 0 => rfl
  | i + 1 => by rw [cands_succ, List.length_append, cands_len ws bs e i]; rfl
theorem zs_len {ws : List (Str × Tok)} {bs : List (Array UInt8 × Tok)} {e i : Nat} {zs : List (Str × Tok)} (h : zs.map (fun z => z.1.cps.toList) = cands ws bs e i) : zs.length = 2 * i := by
  have := congrArg List.length h
  rw [List.length_map, cands_len] at this; exact this
theorem inv_next {ws : List (Str × Tok)} {bs : List (Array UInt8 × Tok)} {e i n0 : Nat} {zs : List (Str × Tok)} {z1 z2 ah : Str} {t1 t2 : Tok} {row : Array UInt8} (hzs : zs.map (fun z => z.1.cps.toList) = cands ws bs e i) (hzl : ∀ p ∈ zs, p.1.length ≤ 20000)
    (h1 : z1.cps.toList = ah.cps.toList ++ qword (octsN row)) (h2 : z2.cps.toList = ah.cps.toList ++ ([61, 63, 120, 63, 98, 63] ++ bcps row ++ [63, 61])) (hr : row.toList = ((bs.drop i).take (e - i)).flatMap (fun b => b.1.toList)) (ha : ah.cps.toList = aheadC ws i) (hl1 : z1.length ≤ 20000) (hl2 : z2.length ≤ 20000) :
    ∃ (zs' : List (Str × Tok)) (c' : Nat), PySem.W.listOf (((zs.map strV).toArray.push (.str z1 t1)).push (.str z2 t2)) n0 = PySem.W.listOf (zs'.map strV).toArray c' ∧ zs'.map (fun z => z.1.cps.toList) = cands ws bs e (i + 1) ∧ ∀ p ∈ zs', p.1.length ≤ 20000 := by
  refine ⟨zs ++ [(z1, t1), (z2, t2)], n0, ?_, ?_, fun p hp => ?_⟩
  · congr 1; simp
  · rw [List.map_append, hzs, cands_succ]
    simp only [List.map_cons, List.map_nil, h1, h2, ha, bcps_oct, row_octs hr]
    rfl
  · rcases List.mem_append.mp hp with hp | hp
    · exact hzl p hp
    · simp only [List.mem_cons, List.not_mem_nil, or_false] at hp
      rcases hp with rfl | rfl
      · exact hl1
      · exact hl2
theorem cps_e : (Str.ofString "").cps.toList = [] := by decide +kernel
theorem cps_b : (Str.ofString " ").cps.toList = [32] := by decide +kernel
theorem ahead_0 (ws : List (Str × Tok)) : (Str.ofString "").cps.toList = aheadC ws 0 := cps_e
theorem ahead_1 {ws : List (Str × Tok)} {i : Nat} {x z : Str} {t : Tok} (hi : 0 < i) (h : ws[i]? = some (x, t)) (hz : z.cps.toList = x.cps.toList ++ (Str.ofString " ").cps.toList) : z.cps.toList = aheadC ws i := by
  unfold aheadC
  rw [if_neg (by omega), h, hz, cps_b]
theorem qword_min {ws : List (Str × Tok)} {bs : List (Array UInt8 × Tok)} {e : Nat} (h : ∀ b ∈ bs, 0 < b.1.size ∧ b.1.size ≤ 40) (h5 : bs.length ≤ 5) (he : 0 < e) : ∃ c ∈ cands ws bs e e, c.length ≤ 5000 := by
  refine ⟨cand ws bs e 0 true, mem_cands.mpr ⟨0, true, he, rfl⟩, ?_⟩
  show (aheadC ws 0 ++ qword (rowP bs 0 e)).length ≤ 5000
  rw [show aheadC ws 0 = [] from rfl, List.nil_append]
  refine Nat.le_trans (qword_len _) ?_
  have : (rowP bs 0 e).length ≤ 200 := by
    unfold rowP
    have hm : ∀ b ∈ (bs.drop 0).take (e - 0), b ∈ bs := fun b hb => List.mem_of_mem_drop (List.mem_of_mem_take hb)
    have h1 := flat_len ((bs.drop 0).take (e - 0)) 40 fun b hb => (h b (hm b hb)).2
    have h2 : ((bs.drop 0).take (e - 0)).length ≤ 5 := by rw [List.length_take, List.length_drop]; omega
    have h3 : ((List.take (e - 0) (List.drop 0 bs)).flatMap fun b => octsN b.1).length = ((List.take (e - 0) (List.drop 0 bs)).flatMap fun b => b.1.toList).length := by
      simp only [List.length_flatMap, octsN, List.length_map]
    rw [h3]; omega
  omega
theorem best_of {ws : List (Str × Tok)} {bs : List (Array UInt8 × Tok)} {e : Nat} {zs : List (Str × Tok)} {p : Str × Tok} (hzs : zs.map (fun z => z.1.cps.toList) = cands ws bs e e) (hp : p ∈ zs) (hmin : ∀ p' ∈ zs, p.1.length ≤ p'.1.length) (h : ∀ b ∈ bs, 0 < b.1.size ∧ b.1.size ≤ 40) (h5 : bs.length ≤ 5) (he : 0 < e) : BestW ws bs e p.1 := by
  have hall : ∀ c ∈ cands ws bs e e, p.1.length ≤ c.length := fun c hc => by
    rw [← hzs] at hc
    obtain ⟨z, hz, rfl⟩ := List.mem_map.mp hc
    have := hmin z hz
    rw [Array.length_toList]; exact this
  obtain ⟨c, hc, hl⟩ := qword_min (ws := ws) h h5 he
  exact ⟨hzs ▸ List.mem_map.mpr ⟨p, hp, rfl⟩, hall, Nat.le_trans (hall c hc) hl⟩
def GrA (w : World) (fx : Str × Arguments × List Stmt × Scope) : Prop :=
  ∀ (p : Program) (loose : List Str) (mean : ExcName → Option Value) (mg mb : Str → Option Value) (dp un : Nat) (gd : Option (List Code)) (cn : Str) (cs : Scope) (a : Addr) (ccd : Value) (cl : List (Str × Addr)) (outer : List Env) (A₀ : Around) (base h₀ : Heap) (L : Addr) (m : Str → Option Value) (rest : List (Addr × Obj)) (s : Shared) (Q E : Value → Shared → Prop)
    (q : NK) (u : Tok) (c0 c1 cell : Addr) (v0 v1 : List Value) (co : Obj) (fg cg cP cC pl bl : Addr) (oP oC og : Obj) (doc pm ctv : Value) (vs : Array Value) (tq te : Tok) (ws : List (Str × Tok)) (bs : List (Array UInt8 × Tok)) (n c : Nat),
    Below A₀ base outer h₀ → Fr h₀ L s.heap m → (hd.heap_39 w.params).In h₀ →
    News h₀ L s.heap ((bl, PySem.W.listOf (ws.map strV).toArray c) :: (fg, grObj fx cP cC cg doc pm ctv) :: (cg, og) :: (cC, oC) :: (cP, oP) :: (pl, PySem.W.listOf (bs.map bytV).toArray n) :: rest) →
    Top p loose mean mg mb h₀ → cs.kind = .function → dp + 20 < recursionLimit → un + 200 < cLine →
    og.data = .fields vs → vs[1]? = some (.str grQ tq) → oP.data = .cell (some (.ref pl)) → oC.data = .cell (some (.ref (q.y.N + 2))) → KLed w q u c0 c1 cell v0 v1 co rest → bs.length = 5 → (∀ b ∈ bs, 0 < b.1.size ∧ b.1.size ≤ 40) → 0 < ws.length → ws.length ≤ 5 → (∀ p ∈ ws, p.1.length ≤ 5000) →
    (∀ D' nw tn c' h' tk', BestW ws bs ws.length nw → Fr h₀ L h' m → News h₀ L h' ((D', PySem.W.listOf ((ws ++ [(nw, tn)]).map strV).toArray c') :: (bl, PySem.W.listOf (ws.map strV).toArray c) :: (fg, grObj fx cP cC cg doc pm ctv) :: (cg, og) :: (cC, oC) :: (cP, oP) :: (pl, PySem.W.listOf (bs.map bytV).toArray n) :: rest) → Q (.ref D') { s with heap := h', toks := tk' }) →
    wpAny (model PySem.Challenge.rw_il0164_01.row.prog w) (ktrTop dp un gd cn cs L a ccd cl outer) (call (.ref fg) [.ref bl, .int (ws.length : Int) te]) Q E s
end
-- Grown
section
theorem news_rot {h₀ h : Heap} {L : Addr} {x y z : Addr × Obj} {r : List (Addr × Obj)} (N : News h₀ L h (x :: y :: z :: r)) : News h₀ L h (z :: x :: y :: r) := fun p hp => by
  rcases List.mem_cons.mp hp with rfl | hp
  · exact N _ (.tail _ (.tail _ (.head _)))
  · rcases List.mem_cons.mp hp with rfl | hp
    · exact N _ (.head _)
    · rcases List.mem_cons.mp hp with rfl | hp
      · exact N _ (.tail _ (.head _))
      · exact N _ (.tail _ (.tail _ (.tail _ hp)))
theorem unr_end2 {h₀ : Heap} {L I D l : Addr} {it oD ol : Obj} {rest : (Str → Option Value) → List (Addr × Obj) → Prop} {s₁ : Shared} {h' : Heap} {tk : Nat} {m' : Str → Option Value} {news' : List (Addr × Obj)} (F : Fr h₀ L h' m') (N : News h₀ L h' ((l, ol) :: (D, oD) :: (I, it) :: news'))
    (off : ∀ p ∈ (l, ol) :: news', p.1 ≠ I) (r : rest m' ((l, ol) :: news')) : UnrEnd h₀ L s₁ I it rest { s₁ with heap := h', toks := tk } := UnrEnd.intro F N ((l, ol) :: news') (fun p hp => by
    rcases List.mem_cons.mp hp with rfl | hp
    · exact .tail _ (.tail _ (.head _))
    · rcases List.mem_cons.mp hp with rfl | hp
      · exact .head _
      · exact .tail _ (.tail _ (.tail _ hp))) off r
theorem grown_all (w : World) : GrA w (grFx w.params) := by
  unfold GrA
  k_fill
  show GrA w (grFx w.params)
  refine gr_via (fun fx => GTail w fx → GrA w fx) (by k_is) ?_ (gtail w)
  unfold GrA GTail
  dsimp only [grFxO, grTail, List.drop_succ_cons, List.drop_zero]
  intro gt p loose mean mg mb dp un gd cn cs a ccd cl outer A₀ base h₀ L m rest s Q E q u c0 c1 cell v0 v1 co fg cg cP cC pl bl oP oC og doc pm ctv vs tq te ws bs n c B F X N T hk hd hu hog hvs hoP hoC K hbl hbz hw0 hw5 hws hret
  refine wpAny_call (callX_plain (cl := [(Str.ofString "parts", cP), (Str.ofString "comparer", cC)]) (binds := [(Str.ofString "best", .ref bl), (Str.ofString "end", .int (ws.length : Int) te)]) B F N T.nolimit rfl rfl hk (N _ (.tail _ (.head _))).1 rfl ⟨_, _, _, tq, rfl, (N _ (.tail _ (.tail _ (.head _)))).1, hog, hvs⟩ ?room ?bind ?loc ?_ ?hcl)
  case room => ktr_room
  case bind => exact BindsTo.of_eq rfl
  case loc => exact locs rfl
  case hcl => decide
  intro g L' h1 FG F1 N1 B1 st l1
  have X1 := X.keeps st
  have T1 := T.keeps st
  dsimp only
  clear N F FG st B
  iterate 14 (first | ((with_reducible first | refine isN "parts" ?_ | refine isN "comparer" ?_); refine nameX_F (by k_asm) (by first | exact List.lookup_cons_self | exact lk2 (by kernel_rfl)) (by k_mem) (by with_reducible assumption) ?_ (by exact rfl) (by kernel_rfl) (by decide) (by decide)) | ((with_reducible first | refine isN "range" ?_ | refine isN "sorted" ?_); refine nameX_B (by k_asm) (by k_asm) (by exact topRead_of (by k_asm)) (by k_is) (by boot_by_name) (by decide) ?_ (by exact rfl) (by kernel_rfl) (by decide)) | ((with_reducible show wpAny _ _ (call (Value.builtin "bytes.join") [Value.bytes _ _, Value.ref _]) _ _ _); refine bjoinL (by k_asm) (by k_asm) (by k_asm) (by k_asm) (by k_mem) (by rw [List.length_take, List.length_drop]; omega) (by rw [List.length_take, List.length_drop]; omega) (by exact bz_of (by assumption)) ?_; intro irow irt ih itk irw iF iN) | ((with_reducible show wpAny _ _ (subscriptTail _ (PySem.Expr.Slice _ _ _ _) (Value.ref _) (Value.ref _)) _ _ _); refine slice_bs (by k_asm) (by k_asm) (by k_mem) (by omega) (by omega) (by omega) ?_ (by with_unfolding_all rfl) (by kmk_pure); intro iD ih iF iN il; (try k_lt il)) | ((with_reducible show wpAny _ _ (subscriptTail _ (PySem.Expr.Name _ _) (Value.ref _) (Value.int _ _)) _ _ _); refine' item_ws ?hlh66 ?hih66 ?hzh66 ?hwh66 ?_; (case hwh66 => assumption); (case hlh66 => exact News.isList (by k_asm) (by k_mem)); (case hih66 => assumption); (case hzh66 => assumption); (intro iwx iwt iwh iwl)) | ((with_reducible show wpAny _ _ (binaryOp _ (Value.str _ _) (Value.str _ _)) _ _ _); refine add_s (by (try simp only [len_e, len_6, len_2, len_1]); omega) ?_; (intro iz it ik izc izl); (try simp only [len_e, len_6, len_2, len_1] at izl)) | (with_reducible refine method_join ?_) | walk_at "ONE")

  iterate 1 (first | ((with_reducible first | refine isN "parts" ?_ | refine isN "comparer" ?_); refine nameX_F (by k_asm) (by first | exact List.lookup_cons_self | exact lk2 (by kernel_rfl)) (by k_mem) (by with_reducible assumption) ?_ (by exact rfl) (by kernel_rfl) (by decide) (by decide)) | ((with_reducible first | refine isN "range" ?_ | refine isN "sorted" ?_); refine nameX_B (by k_asm) (by k_asm) (by exact topRead_of (by k_asm)) (by k_is) (by boot_by_name) (by decide) ?_ (by exact rfl) (by kernel_rfl) (by decide)) | ((with_reducible show wpAny _ _ (call (Value.builtin "bytes.join") [Value.bytes _ _, Value.ref _]) _ _ _); refine bjoinL (by k_asm) (by k_asm) (by k_asm) (by k_asm) (by k_mem) (by rw [List.length_take, List.length_drop]; omega) (by rw [List.length_take, List.length_drop]; omega) (by exact bz_of (by assumption)) ?_; intro irow irt ih itk irw iF iN) | ((with_reducible show wpAny _ _ (subscriptTail _ (PySem.Expr.Slice _ _ _ _) (Value.ref _) (Value.ref _)) _ _ _); refine slice_bs (by k_asm) (by k_asm) (by k_mem) (by omega) (by omega) (by omega) ?_ (by with_unfolding_all rfl) (by kmk_pure); intro iD ih iF iN il; (try k_lt il)) | ((with_reducible show wpAny _ _ (subscriptTail _ (PySem.Expr.Name _ _) (Value.ref _) (Value.int _ _)) _ _ _); refine' item_ws ?hlh73 ?hih73 ?hzh73 ?hwh73 ?_; (case hwh73 => assumption); (case hlh73 => exact News.isList (by k_asm) (by k_mem)); (case hih73 => assumption); (case hzh73 => assumption); (intro iwx iwt iwh iwl)) | ((with_reducible show wpAny _ _ (binaryOp _ (Value.str _ _) (Value.str _ _)) _ _ _); refine add_s (by (try simp only [len_e, len_6, len_2, len_1]); omega) ?_; (intro iz it ik izc izl); (try simp only [len_e, len_6, len_2, len_1] at izl)) | (with_reducible refine method_join ?_) | walk_at "ONE")
  k_here
  refine range1_rows (by k_asm) (by k_asm) ?_
  intro h2 tk2 r1 r2 r3 hr F2 N2 kk
  try dsimp only
  k_here
  refine iter_rangeUnr (n := ws.length) (by rfl) hr ?small ?rsz F2 N2 ?_
  case small => obtain ⟨k, hk'⟩ : ∃ k, k = ws.length := ⟨_, rfl⟩; rw [← hk'] at hw0 hw5 ⊢; clear hk'; match k, hw0, hw5 with | 1, _, _ => rfl | 2, _, _ => rfl | 3, _, _ => rfl | 4, _, _ => rfl | 5, _, _ => rfl
  case rsz => rw [rangeSize_nat]; omega
  intro I l2
  try k_lt l2


  refine rr_ind1 [Str.ofString "found", Str.ofString "best", Str.ofString "end"] (fun i o => ∃ (zs : List (Str × Tok)) (c' : Nat), o = PySem.W.listOf (zs.map strV).toArray c' ∧ zs.map (fun z => z.1.cps.toList) = cands ws bs ws.length i ∧ (∀ p ∈ zs, p.1.length ≤ 20000)) ?ini ?turn ?fin
  case ini => exact ⟨[], 0, rfl, rfl, fun _ h => nomatch h⟩
  case fin =>
    rintro m1 _ h3 tk3 hm ⟨zs, c', rfl, hzs, hzl⟩ F3 N3
    have hmf := (hm (Str.ofString "found") (.head _)).trans (if_pos rfl)
    have hmb := (hm (Str.ofString "best") (.tail _ (.head _))).trans (show _ = some (.ref bl) from rfl)
    have hzn := zs_len hzs
    clear F2 N2 hr kk
    iterate 16 (first | ((with_reducible first | refine isN "parts" ?_ | refine isN "comparer" ?_); refine nameX_F (by k_asm) (by first | exact List.lookup_cons_self | exact lk2 (by kernel_rfl)) (by k_mem) (by with_reducible assumption) ?_ (by exact rfl) (by kernel_rfl) (by decide) (by decide)) | ((with_reducible first | refine isN "range" ?_ | refine isN "sorted" ?_); refine nameX_B (by k_asm) (by k_asm) (by exact topRead_of (by k_asm)) (by k_is) (by boot_by_name) (by decide) ?_ (by exact rfl) (by kernel_rfl) (by decide)) | ((with_reducible show wpAny _ _ (call (Value.builtin "bytes.join") [Value.bytes _ _, Value.ref _]) _ _ _); refine bjoinL (by k_asm) (by k_asm) (by k_asm) (by k_asm) (by k_mem) (by rw [List.length_take, List.length_drop]; omega) (by rw [List.length_take, List.length_drop]; omega) (by exact bz_of (by assumption)) ?_; intro irow irt ih itk irw iF iN) | ((with_reducible show wpAny _ _ (subscriptTail _ (PySem.Expr.Slice _ _ _ _) (Value.ref _) (Value.ref _)) _ _ _); refine slice_bs (by k_asm) (by k_asm) (by k_mem) (by omega) (by omega) (by omega) ?_ (by with_unfolding_all rfl) (by kmk_pure); intro iD ih iF iN il; (try k_lt il)) | ((with_reducible show wpAny _ _ (subscriptTail _ (PySem.Expr.Name _ _) (Value.ref _) (Value.int _ _)) _ _ _); refine' item_ws ?hlh80 ?hih80 ?hzh80 ?hwh80 ?_; (case hwh80 => assumption); (case hlh80 => exact News.isList (by k_asm) (by k_mem)); (case hih80 => assumption); (case hzh80 => assumption); (intro iwx iwt iwh iwl)) | ((with_reducible show wpAny _ _ (binaryOp _ (Value.str _ _) (Value.str _ _)) _ _ _); refine add_s (by (try simp only [len_e, len_6, len_2, len_1]); omega) ?_; (intro iz it ik izc izl); (try simp only [len_e, len_6, len_2, len_1] at izl)) | (with_reducible refine method_join ?_) | walk_at "ONE")
    try dsimp only
    k_here
    refine' ksrt_sorted (xs := zs) (K.mono ?sk) ?sB ?sF ?sX ?sT rfl ?sd ?su ?sN ?sl ?s2 ?s64 ?sn ?sQ
    case sB => k_asm
    case sF => k_asm
    case sX => k_asm
    case sT => k_asm
    case sN => k_asm
    case sk => exact fun p hp => by (repeat (first | exact hp | refine List.mem_cons_of_mem _ ?_))
    case sd => ktr_room
    case su => ktr_units
    case sl => exact News.isList (by assumption) (by k_mem)
    case s2 => omega
    case s64 => omega
    case sn => exact fun p hp => Nat.le_trans (hzl p hp) (by decide)
    intro D out c2 h4 tk4 F4 N4 hnD hfm
    obtain ⟨pb, ro, hout, hpb, hmin⟩ := hfm
    obtain ⟨outl⟩ := out
    simp only at hout
    subst hout
    have hbest := best_of hzs hpb hmin hbz (by omega) hw0
    clear hmin
    try dsimp only
    iterate 1 (first | ((with_reducible first | refine isN "parts" ?_ | refine isN "comparer" ?_); refine nameX_F (by k_asm) (by first | exact List.lookup_cons_self | exact lk2 (by kernel_rfl)) (by k_mem) (by with_reducible assumption) ?_ (by exact rfl) (by kernel_rfl) (by decide) (by decide)) | ((with_reducible first | refine isN "range" ?_ | refine isN "sorted" ?_); refine nameX_B (by k_asm) (by k_asm) (by exact topRead_of (by k_asm)) (by k_is) (by boot_by_name) (by decide) ?_ (by exact rfl) (by kernel_rfl) (by decide)) | ((with_reducible show wpAny _ _ (call (Value.builtin "bytes.join") [Value.bytes _ _, Value.ref _]) _ _ _); refine bjoinL (by k_asm) (by k_asm) (by k_asm) (by k_asm) (by k_mem) (by rw [List.length_take, List.length_drop]; omega) (by rw [List.length_take, List.length_drop]; omega) (by exact bz_of (by assumption)) ?_; intro irow irt ih itk irw iF iN) | ((with_reducible show wpAny _ _ (subscriptTail _ (PySem.Expr.Slice _ _ _ _) (Value.ref _) (Value.ref _)) _ _ _); refine slice_bs (by k_asm) (by k_asm) (by k_mem) (by omega) (by omega) (by omega) ?_ (by with_unfolding_all rfl) (by kmk_pure); intro iD ih iF iN il; (try k_lt il)) | ((with_reducible show wpAny _ _ (subscriptTail _ (PySem.Expr.Name _ _) (Value.ref _) (Value.int _ _)) _ _ _); refine' item_ws ?hlh87 ?hih87 ?hzh87 ?hwh87 ?_; (case hwh87 => assumption); (case hlh87 => exact News.isList (by k_asm) (by k_mem)); (case hih87 => assumption); (case hzh87 => assumption); (intro iwx iwt iwh iwl)) | ((with_reducible show wpAny _ _ (binaryOp _ (Value.str _ _) (Value.str _ _)) _ _ _); refine add_s (by (try simp only [len_e, len_6, len_2, len_1]); omega) ?_; (intro iz it ik izc izl); (try simp only [len_e, len_6, len_2, len_1] at izl)) | (with_reducible refine method_join ?_) | walk_at "ONE")
    k_here
    refine kba_turn (value' := PySem.Expr.Name (PySem.Str.ofString "_") ⟨0, 0, 0, 0⟩) (fun _ => rfl) ?_
    refine item_listL (l := strV pb :: ro) (x := strV pb) ⟨_, (N4 _ (.head _)).1, rfl, _, rfl⟩ (by decide) (by decide) rfl ?_
    try dsimp only
    iterate 2 (first | ((with_reducible first | refine isN "parts" ?_ | refine isN "comparer" ?_); refine nameX_F (by k_asm) (by first | exact List.lookup_cons_self | exact lk2 (by kernel_rfl)) (by k_mem) (by with_reducible assumption) ?_ (by exact rfl) (by kernel_rfl) (by decide) (by decide)) | ((with_reducible first | refine isN "range" ?_ | refine isN "sorted" ?_); refine nameX_B (by k_asm) (by k_asm) (by exact topRead_of (by k_asm)) (by k_is) (by boot_by_name) (by decide) ?_ (by exact rfl) (by kernel_rfl) (by decide)) | ((with_reducible show wpAny _ _ (call (Value.builtin "bytes.join") [Value.bytes _ _, Value.ref _]) _ _ _); refine bjoinL (by k_asm) (by k_asm) (by k_asm) (by k_asm) (by k_mem) (by rw [List.length_take, List.length_drop]; omega) (by rw [List.length_take, List.length_drop]; omega) (by exact bz_of (by assumption)) ?_; intro irow irt ih itk irw iF iN) | ((with_reducible show wpAny _ _ (subscriptTail _ (PySem.Expr.Slice _ _ _ _) (Value.ref _) (Value.ref _)) _ _ _); refine slice_bs (by k_asm) (by k_asm) (by k_mem) (by omega) (by omega) (by omega) ?_ (by with_unfolding_all rfl) (by kmk_pure); intro iD ih iF iN il; (try k_lt il)) | ((with_reducible show wpAny _ _ (subscriptTail _ (PySem.Expr.Name _ _) (Value.ref _) (Value.int _ _)) _ _ _); refine' item_ws ?hlh94 ?hih94 ?hzh94 ?hwh94 ?_; (case hwh94 => assumption); (case hlh94 => exact News.isList (by k_asm) (by k_mem)); (case hih94 => assumption); (case hzh94 => assumption); (intro iwx iwt iwh iwl)) | ((with_reducible show wpAny _ _ (binaryOp _ (Value.str _ _) (Value.str _ _)) _ _ _); refine add_s (by (try simp only [len_e, len_6, len_2, len_1]); omega) ?_; (intro iz it ik izc izl); (try simp only [len_e, len_6, len_2, len_1] at izl)) | (with_reducible refine method_join ?_) | walk_at "ONE")
    k_here
    refine add_lists (vs := ws.map strV) (ws := [strV pb]) (by k_asm) (by k_asm) (News.isList (by assumption) (by k_mem)) (News.isList (by assumption) (by k_mem)) ?_ (by rw [List.length_map, sizeLine_eq]; simp only [List.length_cons, List.length_nil]; omega)
    intro h6 F6 N6
    try dsimp only
    walk_at "ONE"
    try dsimp only
    refine hret _ pb.1 pb.2 0 _ _ hbest ?hrF ?hrN
    case hrF => assumption
    case hrN =>
      rename News h₀ L _ _ => N9
      intro p hp
      rcases List.mem_cons.mp hp with rfl | hp
      · rw [List.map_append]; exact N9 _ (.head _)
      · exact N9 _ (by repeat (first | exact hp | refine List.mem_cons_of_mem _ ?_))
  intro i m1 o1 hi hI hm t h3 tk3 F3 N3
  refine wpAny_abs ?_
  intro qS hqS
  obtain ⟨zs, c', rfl, hzs, hzl⟩ := hI
  have hmf := (hm (Str.ofString "found") (.head _)).trans (if_pos rfl)
  have hmb := (hm (Str.ofString "best") (.tail _ (.head _))).trans (show _ = some (.ref bl) from rfl)
  have hme := (hm (Str.ofString "end") (.tail _ (.tail _ (.head _)))).trans (show _ = some (.int (ws.length : Int) te) from rfl)
  clear F2 N2 hr kk
  have hzn := zs_len hzs
  have hi5 : i < 5 := by omega
  rcases Nat.eq_zero_or_pos i with rfl | hpos
  case inl =>
    iterate 31 (first | ((with_reducible first | refine isN "parts" ?_ | refine isN "comparer" ?_); refine nameX_F (by k_asm) (by first | exact List.lookup_cons_self | exact lk2 (by kernel_rfl)) (by k_mem) (by with_reducible assumption) ?_ (by exact rfl) (by kernel_rfl) (by decide) (by decide)) | ((with_reducible first | refine isN "range" ?_ | refine isN "sorted" ?_); refine nameX_B (by k_asm) (by k_asm) (by exact topRead_of (by k_asm)) (by k_is) (by boot_by_name) (by decide) ?_ (by exact rfl) (by kernel_rfl) (by decide)) | ((with_reducible show wpAny _ _ (call (Value.builtin "bytes.join") [Value.bytes _ _, Value.ref _]) _ _ _); refine bjoinL (by k_asm) (by k_asm) (by k_asm) (by k_asm) (by k_mem) (by rw [List.length_take, List.length_drop]; omega) (by rw [List.length_take, List.length_drop]; omega) (by exact bz_of (by assumption)) ?_; intro irow irt ih itk irw iF iN) | ((with_reducible show wpAny _ _ (subscriptTail _ (PySem.Expr.Slice _ _ _ _) (Value.ref _) (Value.ref _)) _ _ _); refine slice_bs (by k_asm) (by k_asm) (by k_mem) (by omega) (by omega) (by omega) ?_ (by with_unfolding_all rfl) (by kmk_pure); intro iD ih iF iN il; (try k_lt il)) | ((with_reducible show wpAny _ _ (subscriptTail _ (PySem.Expr.Name _ _) (Value.ref _) (Value.int _ _)) _ _ _); refine' item_ws ?hlh101 ?hih101 ?hzh101 ?hwh101 ?_; (case hwh101 => assumption); (case hlh101 => exact News.isList (by k_asm) (by k_mem)); (case hih101 => assumption); (case hzh101 => assumption); (intro iwx iwt iwh iwl)) | ((with_reducible show wpAny _ _ (binaryOp _ (Value.str _ _) (Value.str _ _)) _ _ _); refine add_s (by (try simp only [len_e, len_6, len_2, len_1]); omega) ?_; (intro iz it ik izc izl); (try simp only [len_e, len_6, len_2, len_1] at izl)) | (with_reducible refine method_join ?_) | walk_at "ONE")
    (try dsimp only)
    k_here
    have hrs := row_size ‹Array.toList _ = List.flatMap _ _› hbz hi (by omega) (by omega)
    refine' gt _ _ _ _ _ _ _ _ _ _ _ _ _ _ _ _ _ _ _ _ _ _ _ _ _ _ _ _ _ _ _ _ _ _ ?gB ?gF ?gX ?gN ?goff ?ghA ?gT ?gd ?gu ?gf ?gh ?gr ?gz0 ?gz1 ?gh2 ?gQ
    case gB => k_asm
    case gF => k_asm
    case gX => k_asm
    case gN => exact news_rot (by assumption)
    case goff => (repeat' (first | (refine List.forall_mem_cons.mpr ⟨?_, ?_⟩) | k_ne | (refine offs ?_; first | exact (show _ ∧ _ ∧ _ ∧ _ ∧ _ ∧ _ ∧ _ ∧ AllLt _ _ from by assumption).2.2.2.2.2.2.2 | exact (show _ ∧ _ ∧ _ ∧ _ ∧ _ ∧ _ ∧ AllLt _ _ from by assumption).2.2.2.2.2.2)))
    case ghA => rw [List.size_toArray, List.length_map]; omega
    case gT => k_asm
    case gd => assumption
    case gu => assumption
    case gf => walk_at "NM"
    case gh => walk_at "NM"
    case gr => walk_at "NM"
    case gz0 => exact hrs.1
    case gz1 => exact hrs.2
    case gh2 => ((try simp only [len_e]); omega)
    intro z1 z2 t1 t2 n0 h0 tk0 hz1 hz2 hl1 hl2 F' N'
    dsimp only
    refine Toward.use hqS ?_
    (refine' unr_end2 ?Fh28 ?Nh28 ?offh28 ?rh28; (case Fh28 => k_asm); (case Nh28 => k_asm); (case offh28 => (repeat' (first | (refine List.forall_mem_cons.mpr ⟨?_, ?_⟩) | k_ne | (refine offs ?_; first | exact (show _ ∧ _ ∧ _ ∧ _ ∧ _ ∧ _ ∧ _ ∧ AllLt _ _ from by assumption).2.2.2.2.2.2.2 | exact (show _ ∧ _ ∧ _ ∧ _ ∧ _ ∧ _ ∧ AllLt _ _ from by assumption).2.2.2.2.2.2)))))
    refine ⟨_, rfl, ?hm0, inv_next hzs hzl hz1 hz2 (by assumption) (ahead_0 ws) hl1 hl2⟩
    intro y hy
    refine Eq.trans ?_ (hm y hy)
    simp only [List.mem_cons, List.not_mem_nil, or_false] at hy
    rcases hy with rfl | rfl | rfl <;> (repeat (first | exact rfl | refine (if_neg (by decide)).trans ?_))
  case inr =>
    iterate 37 (first | ((with_reducible first | refine isN "parts" ?_ | refine isN "comparer" ?_); refine nameX_F (by k_asm) (by first | exact List.lookup_cons_self | exact lk2 (by kernel_rfl)) (by k_mem) (by with_reducible assumption) ?_ (by exact rfl) (by kernel_rfl) (by decide) (by decide)) | ((with_reducible first | refine isN "range" ?_ | refine isN "sorted" ?_); refine nameX_B (by k_asm) (by k_asm) (by exact topRead_of (by k_asm)) (by k_is) (by boot_by_name) (by decide) ?_ (by exact rfl) (by kernel_rfl) (by decide)) | ((with_reducible show wpAny _ _ (call (Value.builtin "bytes.join") [Value.bytes _ _, Value.ref _]) _ _ _); refine bjoinL (by k_asm) (by k_asm) (by k_asm) (by k_asm) (by k_mem) (by rw [List.length_take, List.length_drop]; omega) (by rw [List.length_take, List.length_drop]; omega) (by exact bz_of (by assumption)) ?_; intro irow irt ih itk irw iF iN) | ((with_reducible show wpAny _ _ (subscriptTail _ (PySem.Expr.Slice _ _ _ _) (Value.ref _) (Value.ref _)) _ _ _); refine slice_bs (by k_asm) (by k_asm) (by k_mem) (by omega) (by omega) (by omega) ?_ (by with_unfolding_all rfl) (by kmk_pure); intro iD ih iF iN il; (try k_lt il)) | ((with_reducible show wpAny _ _ (subscriptTail _ (PySem.Expr.Name _ _) (Value.ref _) (Value.int _ _)) _ _ _); refine' item_ws ?hlh109 ?hih109 ?hzh109 ?hwh109 ?_; (case hwh109 => assumption); (case hlh109 => exact News.isList (by k_asm) (by k_mem)); (case hih109 => assumption); (case hzh109 => assumption); (intro iwx iwt iwh iwl)) | ((with_reducible show wpAny _ _ (binaryOp _ (Value.str _ _) (Value.str _ _)) _ _ _); refine add_s (by (try simp only [len_e, len_6, len_2, len_1]); omega) ?_; (intro iz it ik izc izl); (try simp only [len_e, len_6, len_2, len_1] at izl)) | (with_reducible refine method_join ?_) | walk_at "ONE")
    (try dsimp only)
    k_here
    have hrs := row_size ‹Array.toList _ = List.flatMap _ _› hbz hi (by omega) (by omega)
    refine' gt _ _ _ _ _ _ _ _ _ _ _ _ _ _ _ _ _ _ _ _ _ _ _ _ _ _ _ _ _ _ _ _ _ _ ?kB ?kF ?kX ?kN ?koff ?khA ?kT ?kd ?ku ?kf ?kh ?kr ?kz0 ?kz1 ?kh2 ?kQ
    case kB => k_asm
    case kF => k_asm
    case kX => k_asm
    case kN => exact news_rot (by assumption)
    case koff => (repeat' (first | (refine List.forall_mem_cons.mpr ⟨?_, ?_⟩) | k_ne | (refine offs ?_; first | exact (show _ ∧ _ ∧ _ ∧ _ ∧ _ ∧ _ ∧ _ ∧ AllLt _ _ from by assumption).2.2.2.2.2.2.2 | exact (show _ ∧ _ ∧ _ ∧ _ ∧ _ ∧ _ ∧ AllLt _ _ from by assumption).2.2.2.2.2.2)))
    case khA => rw [List.size_toArray, List.length_map]; omega
    case kT => k_asm
    case kd => assumption
    case ku => assumption
    case kf => walk_at "NM"
    case kh => walk_at "NM"
    case kr => walk_at "NM"
    case kz0 => exact hrs.1
    case kz1 => exact hrs.2
    case kh2 => ((try simp only [len_e]); omega)
    intro z1 z2 t1 t2 n0 h0 tk0 hz1 hz2 hl1 hl2 F' N'
    dsimp only
    refine Toward.use hqS ?_
    (refine' unr_end2 ?Fh31 ?Nh31 ?offh31 ?rh31; (case Fh31 => k_asm); (case Nh31 => k_asm); (case offh31 => (repeat' (first | (refine List.forall_mem_cons.mpr ⟨?_, ?_⟩) | k_ne | (refine offs ?_; first | exact (show _ ∧ _ ∧ _ ∧ _ ∧ _ ∧ _ ∧ _ ∧ AllLt _ _ from by assumption).2.2.2.2.2.2.2 | exact (show _ ∧ _ ∧ _ ∧ _ ∧ _ ∧ _ ∧ AllLt _ _ from by assumption).2.2.2.2.2.2)))))
    refine ⟨_, rfl, ?hm1, inv_next hzs hzl hz1 hz2 (by assumption) (ahead_1 hpos (by assumption) (by assumption)) hl1 hl2⟩
    intro y hy
    refine Eq.trans ?_ (hm y hy)
    simp only [List.mem_cons, List.not_mem_nil, or_false] at hy
    rcases hy with rfl | rfl | rfl <;> (repeat (first | exact rfl | refine (if_neg (by decide)).trans ?_))
end
-- Red1
section
def Chain (bs : List (Array UInt8 × Tok)) (ws : List (Str × Tok)) : Prop := (∃ e0 t0, ws[0]? = some (e0, t0) ∧ e0.cps.toList = []) ∧ (∀ e x t, 1 ≤ e → ws[e]? = some (x, t) → BestW (ws.take e) bs e x) ∧ ∀ p ∈ ws, p.1.length ≤ 5000
theorem Chain.next {bs : List (Array UInt8 × Tok)} {ws : List (Str × Tok)} {nw : Str} {tn : Tok} (c : Chain bs ws) (h0 : 0 < ws.length) (h : BestW ws bs ws.length nw) : Chain bs (ws ++ [(nw, tn)]) := by
  obtain ⟨⟨e0, t0, h1, h2⟩, h3, h4⟩ := c
  refine ⟨⟨e0, t0, by rw [List.getElem?_append_left h0]; exact h1, h2⟩, fun e x t he hx => ?_, fun p hp => ?_⟩
  · by_cases hl : e < ws.length
    · rw [List.getElem?_append_left hl] at hx
      rw [List.take_append_of_le_length (by omega)]
      exact h3 e x t he hx
    · have : e = ws.length := by
        have := (List.getElem?_eq_some_iff.mp hx).1
        simp only [List.length_append, List.length_cons, List.length_nil] at this
        omega
      subst this
      rw [List.getElem?_append_right (Nat.le_refl _)] at hx
      simp only [Nat.sub_self, List.getElem?_cons_zero, Option.some.injEq, Prod.mk.injEq] at hx
      rw [← hx.1, List.take_left]
      exact h
  · rcases List.mem_append.mp hp with hp | hp
    · exact h4 p hp
    · rw [List.mem_singleton.mp hp]; exact h.2.2
abbrev rngO (a b : Int) (t u v : Tok) : Obj := { cls := .type "range", dict := none, data := .fields #[.int a t, .int b u, .int 1 v], slots := #[] }
section
variable {prog : Program} {w : World} {A : Around} {E : Value → Shared → Prop} {s : Shared} {env : Env} {h₀ : Heap} {x : Str} {body : List Stmt} {Q : Flow → Shared → Prop}
theorem iter_range_call {L r : Addr} {a b : Int} {t u v : Tok} {m : Str → Option Value} {news : List (Addr × Obj)} {n : Nat} {Q : Value → Shared → Prop} (F : Fr h₀ L s.heap m) (N : News h₀ L s.heap news) (hr : (r, rngO a b t u v) ∈ news) (hsmall : Builtin.Range.small a b 1 = true) (hn : Builtin.Range.rangeSize a b 1 = (n : Int))
    (h : ∀ (I : Addr) h', Fr h₀ L h' m → News h₀ L h' ((I, itR a n) :: news) → (∀ p ∈ news, p.1 < I) → Q (.ref I) { s with heap := h' }) :
    wpAny (model prog w) A (call (.builtin "iter") [.ref r]) Q E s := by
  refine call_function_entry (by decide +kernel) (by decide +kernel) kdk_entry_iter (kdk_args_iter _) ?_
  unfold Builtin.«iter»
  refine wpAny_bind (m := someArgs "iter" 1 2 _) (wpAny_of_eq (a := [Value.ref r]) (by first | rfl | kernel_rfl!) ?_)
  show wpAny _ _ (pyIter (.ref r) >>= _) _ _ _
  refine wpAny_bind (wpAny_pyIter_range (N _ hr).1 hsmall ?_)
  rw [hn]
  exact wpAny_pure ⟨_, rfl, h _ _ (F.push _) (News.push F N _ rfl) (fun q hq => Heap.lt_size (N q hq).1)⟩
theorem UnrPost.mono' {L : Addr} {s₁ : Shared} {I : Addr} {it : Obj} {r r' : (Str → Option Value) → List (Addr × Obj) → Prop} (hr : ∀ m n, r m n → r' m n) {f : Flow} {s₂ : Shared} (h : UnrPost h₀ L s₁ I it r Q f s₂) : UnrPost h₀ L s₁ I it r' Q f s₂ := UnrPost.mono hr h
theorem rr_inda {I : Addr} {a : Int} {n : Nat} (INV : Nat → (Str → Option Value) → List (Addr × Obj) → Prop)
    (step : ∀ (i : Nat) (m : Str → Option Value) (news : List (Addr × Obj)), i < n → INV i m news → ∀ t h tk, Fr h₀ env.locals h (fun y => if y = x then some (.int (a + (i : Int)) t) else m y) → News h₀ env.locals h ((I, itR (a + ((i + 1 : Nat) : Int)) ((n : Int) - ((i + 1 : Nat) : Int))) :: news) →
      wpAny (model prog w) A (execs body env) (UnrPost h₀ env.locals { s with heap := h, toks := tk } I (itR (a + ((i + 1 : Nat) : Int)) ((n : Int) - ((i + 1 : Nat) : Int))) (INV (i + 1)) Q) E { s with heap := h, toks := tk })
    (fin : ∀ (m : Str → Option Value) (news : List (Addr × Obj)) (h : Heap) (tk : Nat), INV n m news → Fr h₀ env.locals h m → News h₀ env.locals h news → Q .next { s with heap := h, toks := tk }) :
    ∀ k i m news, i + k = n → INV i m news → RangeRest prog w A E h₀ env x body Q s I a n k i m news := by
  intro k
  induction k with
  | zero =>
    intro i m news e hI
    have : i = n := by omega
    subst this
    exact RangeRest.zero fun h tk F N => fin _ _ h tk hI F N
  | succ k ih =>
    intro i m news e hI
    refine RangeRest.succ fun t h tk F N => ?_
    refine wpAny_mono (step i m news (by omega) hI t h tk F N) (fun f s₂ p => ?_) fun _ _ e => e
    exact UnrPost.mono (fun m' n' hI' => ih (i + 1) m' n' (by omega) hI') p
theorem iter_selfUnr {I : Addr} {a₀ : Int} {n : Nat} {m₀ : Str → Option Value} {news : List (Addr × Obj)}
    (hh : A.handled = none) (F : Fr h₀ env.locals s.heap m₀) (N : News h₀ env.locals s.heap ((I, itR a₀ n) :: news)) (off : ∀ p ∈ news, p.1 ≠ I)
    (rest₁ : ∀ I', I' = I → (∀ p ∈ news, p.1 ≠ I') → RangeRest prog w A E h₀ env x body Q s I' a₀ n n 0 m₀ news) :
    wpAny (model prog w) A (pyIter (.ref I)) (fun it s₂ => LoopAtV prog w A h₀ env x body Q E it s₂) E s := by
  have hI := N _ (.head _)
  have rest := rest₁ I rfl off
  have hit0 : IsRangeIter s.heap I a₀ n 1 := hI.1
  refine wpAny_pyIter_rangeiter hit0 ?_
  have W : Walks prog w A I [I] [I] n (fun i v => i < n ∧ ∃ t, v = .int (a₀ + i * 1) t)
      (fun i h => IsRangeIter h I (a₀ + (i : Nat) * 1) ((n : Int) - (i : Nat)) 1) := (Walks.range hh _ a₀ 1 n).bound
  let J : Nat → (Str → Option Value) → List (Addr × Obj) → Prop := fun i m₁ news₁ => RangeRest prog w A E h₀ env x body Q s I a₀ n (n - i) i m₁ news₁
  refine ⟨_, _, _, n, _, _, m₀, news, J, rfl, W, ?_, ?_, ?_, (by simpa using hit0), F, (fun p hp => N p (.tail _ hp)), rest, ?_, ?_⟩
  · intro hm
    exact hI.2.1 (List.mem_singleton.mp hm).symm
  · intro b hb
    rw [List.mem_singleton.mp hb]
    exact hI.2.2
  · intro p hp hm
    exact off p hp (List.mem_singleton.mp hm)
  · rintro i v m₁ news₁ s₁ own ⟨hh', tk', rfl⟩ hin ⟨_, t, rfl⟩ hJ hoff hown hget hall hst F₁ N₁
    have hst' : hh'.get? I = some (itR (a₀ + ((i + 1 : Nat) : Int)) ((n : Int) - ((i + 1 : Nat) : Int))) := by
      have q : IsRangeIter hh' I (a₀ + ((i + 1 : Nat) : Int) * 1) ((n : Int) - ((i + 1 : Nat) : Int)) 1 := hst
      rw [Int.mul_one] at q
      exact q
    have hmem := hall I (List.mem_singleton.mpr rfl) hI.2.2 _ hst'
    have hkk : n - i = (n - (i + 1)) + 1 := by omega
    have hJ' : RangeRest prog w A E h₀ env x body Q s I a₀ n ((n - (i + 1)) + 1) i m₁ news₁ := by rw [← hkk]; exact hJ
    have e1 : a₀ + (i : Int) * 1 = a₀ + (i : Int) := by rw [Int.mul_one]
    rw [e1] at F₁
    have N₂ : News h₀ env.locals hh' ((I, itR (a₀ + ((i + 1 : Nat) : Int)) ((n : Int) - ((i + 1 : Nat) : Int))) :: news₁) := fun p hp => by
      rcases List.mem_cons.mp hp with rfl | hp
      · exact N₁ _ (List.mem_append_left _ hmem)
      · exact N₁ _ (List.mem_append_right _ hp)
    refine wpAny_mono (hJ' t hh' tk' F₁ N₂) (fun f s₂ p => ?_) fun _ _ e => e
    have fin : UnrEnd h₀ env.locals { s with heap := hh', toks := tk' } I (itR (a₀ + ((i + 1 : Nat) : Int)) ((n : Int) - ((i + 1 : Nat) : Int))) (RangeRest prog w A E h₀ env x body Q s I a₀ n (n - (i + 1)) (i + 1)) s₂ →
        LoopStepU h₀ env.locals [I] own (J (i + 1)) { s with heap := hh', toks := tk' } .next s₂ := by
      rintro ⟨h', tk, m', news', e, F', N', ho, r⟩
      refine ⟨rfl, h', tk, m', news', e, F', fun p hp => ?_, fun p hp hI => ho p hp (List.mem_singleton.mp hI), r⟩
      rcases List.mem_append.mp hp with hp | hp
      · have h1 : p.1 = I := List.mem_singleton.mp (hown p hp)
        have h2 : hh'.get? p.1 = some p.2 := hget p hp
        have h3 : p = (I, itR (a₀ + ((i + 1 : Nat) : Int)) ((n : Int) - ((i + 1 : Nat) : Int))) := by
          rw [h1, hst'] at h2
          exact Prod.ext h1 (Option.some.inj h2).symm
        rw [h3]; exact N' _ (List.mem_cons_self ..)
      · exact N' _ (List.mem_cons_of_mem _ hp)
    cases f with
    | ret v => exact .ret p
    | brk => exact .brk p
    | next => exact .next (fin p)
    | cont => exact .cont (fin p)
  · rintro h' tk m' news' F' N' _ hJ
    have hJ' : RangeRest prog w A E h₀ env x body Q s I a₀ n 0 n m' news' := by
      have z : n - n = 0 := Nat.sub_self n
      have q : RangeRest prog w A E h₀ env x body Q s I a₀ n (n - n) n m' news' := hJ
      rw [z] at q; exact q
    exact hJ' h' tk F' N'
end
def RedA (w : World) (fx : Str × Arguments × List Stmt × Scope) : Prop :=
  ∀ (p : Program) (loose : List Str) (mean : ExcName → Option Value) (mg mb : Str → Option Value) (dp un : Nat) (gd : Option (List Code)) (cn : Str) (cs : Scope) (a : Addr) (ccd : Value) (cl : List (Str × Addr)) (outer : List Env) (A₀ : Around) (base h₀ : Heap) (L : Addr) (m : Str → Option Value) (rest : List (Addr × Obj)) (s : Shared) (Q E : Value → Shared → Prop)
    (q : NK) (u : Tok) (c0 c1 cell : Addr) (v0 v1 : List Value) (co : Obj) (fg cg cP cC pl bl r : Addr) (oP oC og : Obj) (doc pm ctv : Value) (vs : Array Value) (tq ta tb tc : Tok) (e0 : Str) (t0 : Tok) (bs : List (Array UInt8 × Tok)) (n c : Nat),
    Below A₀ base outer h₀ → Fr h₀ L s.heap m → (hd.heap_39 w.params).In h₀ →
    News h₀ L s.heap ((bl, PySem.W.listOf #[.str e0 t0] c) :: (r, rngO 1 6 ta tb tc) :: (fg, grObj fx cP cC cg doc pm ctv) :: (cg, og) :: (cC, oC) :: (cP, oP) :: (pl, PySem.W.listOf (bs.map bytV).toArray n) :: rest) →
    Top p loose mean mg mb h₀ → cs.kind = .function → dp + 30 < recursionLimit → un + 300 < cLine → e0.cps.toList = [] →
    og.data = .fields vs → vs[1]? = some (.str grQ tq) → oP.data = .cell (some (.ref pl)) → oC.data = .cell (some (.ref (q.y.N + 2))) → KLed w q u c0 c1 cell v0 v1 co rest → bs.length = 5 → (∀ b ∈ bs, 0 < b.1.size ∧ b.1.size ≤ 40) →
    (∀ D' ws c' h' tk', Chain bs ws → ws.length = 6 → Fr h₀ L h' m → News h₀ L h' ((D', PySem.W.listOf (ws.map strV).toArray c') :: (fg, grObj fx cP cC cg doc pm ctv) :: (cg, og) :: (cC, oC) :: (cP, oP) :: (pl, PySem.W.listOf (bs.map bytV).toArray n) :: rest) → Q (.ref D') { s with heap := h', toks := tk' }) →
    wpAny (model PySem.Challenge.rw_il0164_01.row.prog w) (ktrTop dp un gd cn cs L a ccd cl outer) (call (.ref 139) [.ref fg, .ref r, .ref bl]) Q E s
end
-- Red2
section
inductive RedI (fg : Addr) (bs : List (Array UInt8 × Tok)) (R : List (Addr × Obj)) (i : Nat) (m : Str → Option Value) (news : List (Addr × Obj)) : Prop
  | mk (D : Addr) (ws : List (Str × Tok)) (c' : Nat) (e : news = (D, PySem.W.listOf (List.map strV ws).toArray c') :: R) (hf : m (Str.ofString "function") = some (.ref fg)) (hv : m (Str.ofString "value") = some (.ref D)) (hc : Chain bs ws) (hl : ws.length = i + 1) : RedI fg bs R i m news
theorem red_all (w : World) (fx : Str × Arguments × List Stmt × Scope) (gr : GrA w fx) : RedA w fx := by
  unfold RedA
  k_fill
  intro p loose mean mg mb dp un gd cn cs a ccd cl outer A₀ base h₀ L m rest s Q E q u c0 c1 cell v0 v1 co fg cg cP cC pl bl r oP oC og doc pm ctv vs tq ta tb tc e0 t0 bs n c B F X N T hk hd hu he0 hog hvs hoP hoC K hbl hbz hret
  refine wpAny_call ?_
  refine' code_def ?k1h32 ?k2h32 ?k3h32 ?k4h32 ?k5h32 ?kAh32 ?kFh32 ?kKh32 ?k6h32 ?k7h32 ?k8h32 ?k9h32 ?kBh32 ?_ ?c2h32 ?c3h32 ?c4h32 ?c5h32; (case kAh32 | kFh32 => exact rfl); (case kKh32 => first | assumption | exact rfl); (case k1h32 | k2h32 | k3h32 | k4h32 | k5h32 => k_asm); (case k6h32 | k7h32 => k_is); (case k8h32 => ktr_room); (case k9h32 => first | exact BindsTo.of_eq rfl | exact binds_K (by k_in) rfl (by k_is) rfl rfl rfl); (case c2h32 | c3h32 | c4h32 => exact rfl); (case c5h32 => decide); (case kBh32 => exact locs rfl); k_whole; intro iG iL iH iFG iF iN iB iX iT; (try dsimp only); (try k_lift iB); (try k_fold)
  iterate 26 (first | ((with_reducible show wpAny _ _ (call (Value.builtin "iter") _ _) _ _ _); refine iter_range_call (n := 5) (by k_asm) (by k_asm) (by k_mem) (by rfl) (by rfl) ?_; intro iI ih iF iN il; (try k_lt il)) | walk_at "ONE")
  k_here
  (rename Fr _ _ _ _ => lF')
  refine' For_invVF lF' ?fk1 ?fk2 ?_
  case fk1 => exact rfl
  case fk2 => exact rfl
  walk_at "ONE"
  k_here
  refine iter_selfUnr (a₀ := 1) (n := 5) rfl (by k_asm) (by k_asm) ?off ?_
  case off => (repeat' (first | (refine List.forall_mem_cons.mpr ⟨?_, ?_⟩) | k_ne | (refine offs ?_; first | exact (show _ ∧ _ ∧ _ ∧ _ ∧ _ ∧ _ ∧ _ ∧ AllLt _ _ from by assumption).2.2.2.2.2.2.2 | exact (show _ ∧ _ ∧ _ ∧ _ ∧ _ ∧ _ ∧ AllLt _ _ from by assumption).2.2.2.2.2.2)))
  intro I _ offA
  have offB := fun p hp => offA p (.tail _ hp)
  refine rr_inda (RedI fg bs ((r, rngO 1 6 ta tb tc) :: (fg, grObj fx cP cC cg doc pm ctv) :: (cg, og) :: (cC, oC) :: (cP, oP) :: (pl, PySem.W.listOf (bs.map bytV).toArray n) :: rest)) ?step ?fin 5 0 _ _ rfl ?ini
  case ini =>
    refine ⟨bl, [(e0, t0)], c, rfl, ?_, ?_, ⟨⟨e0, t0, rfl, he0⟩, ?_, ?_⟩, rfl⟩
    · exact rfl
    · exact rfl
    · intro e x t h1 hx
      rw [List.getElem?_eq_none (by simpa using h1)] at hx
      exact absurd hx (by simp)
    · intro p hp
      rw [List.mem_singleton.mp hp]
      show e0.cps.size ≤ 5000
      rw [← Array.length_toList, he0]; decide
  case fin =>
    rintro m1 _ h3 tk3 ⟨D, ws, c', rfl, hmf, hmv, hch, hlen⟩ F3 N3
    try dsimp only
    iterate 4 (walk_at "ONE")
    rename Fr h₀ L _ _ => F9
    rename News h₀ L _ _ => N9
    refine hret _ ws c' _ _ hch (by omega) F9 (fun p hp => N9 p ?_)
    simp only [List.mem_cons] at hp ⊢
    rcases hp with h | h | h | h | h | h | h <;> (repeat (first | exact h | exact Or.inl h | apply Or.inr))
  case step =>
    intro i m1 n1 hi hI t h3 tk3 F3 N3
    clear lF'
    refine wpAny_abs ?_
    intro qS hqS
    obtain ⟨D, ws, c', rfl, hmf, hmv, hch, hlen⟩ := hI
    have hl : (1 : Int) + (i : Int) = (ws.length : Int) := by omega
    simp only [hl] at F3
    iterate 4 (walk_at "ONE")
    k_here
    refine callWith_def (o := grObj fx cP cC cg doc pm ctv) rfl ?_
    iterate 5 (walk_at "ONE")
    refine ⟨(N3 _ (.tail _ (.tail _ (.tail _ (.head _))))).1, ?_⟩
    have N5 : News _ _ _ ((D, PySem.W.listOf (List.map strV ws).toArray c') :: (fg, grObj fx cP cC cg doc pm ctv) :: (cg, og) :: (cC, oC) :: (cP, oP) :: (pl, PySem.W.listOf (bs.map bytV).toArray n) :: ((I, _) :: (r, rngO 1 6 ta tb tc) :: rest)) := fun p hp => N3 p (by
      simp only [List.mem_cons] at hp ⊢
      rcases hp with h | h | h | h | h | h | h | h | h <;> (repeat (first | exact h | exact Or.inl h | apply Or.inr)))
    k_here
    refine' gr _ _ _ _ _ _ _ _ _ _ _ _ _ _ _ _ _ _ _ _ _ _ _ _ _ _ _ _ _ _ _ _ _ _ _ _ _ _ _ _ _ _ _ _ _ _ _ _ _ _ ?qB ?qF ?qX N5 ?qT rfl ?qd ?qu hog hvs hoP hoC (K.mono fun p hp => .tail _ (.tail _ hp)) hbl hbz (by omega) (by omega) hch.2.2 ?qR
    case qB => k_asm
    case qF => k_asm
    case qX => k_asm
    case qT => k_asm
    case qd => ktr_room
    case qu => ktr_units
    intro D' nw tn c2 h5 tk5 hb F6 N6
    try dsimp only
    iterate 2 (walk_at "ONE")
    rename Fr _ _ _ _ => F9
    rename News _ _ _ _ => N9
    refine wpAny_execs_nil ?_
    refine Toward.use hqS ?_
    show UnrEnd _ _ _ _ _ _ _
    refine UnrEnd.intro F9 N9 ((D', PySem.W.listOf (List.map strV (ws ++ [(nw, tn)])).toArray c2) :: (r, rngO 1 6 ta tb tc) :: (fg, grObj fx cP cC cg doc pm ctv) :: (cg, og) :: (cC, oC) :: (cP, oP) :: (pl, PySem.W.listOf (bs.map bytV).toArray n) :: rest) ?eS ?eO ?eR
    case eS =>
      intro p hp
      simp only [List.mem_cons] at hp ⊢
      rcases hp with h | h | h | h | h | h | h | h | h <;> (repeat (first | exact h | exact Or.inl h | apply Or.inr))
    case eO =>
      intro p hp
      rcases List.mem_cons.mp hp with rfl | hp
      · intro e
        have e2 := news_uniq N9 (a := I) (o := PySem.W.listOf (List.map strV (ws ++ [(nw, tn)])).toArray c2) (e ▸ .head _) (.tail _ (.tail _ (.tail _ (.tail _ (.tail _ (.tail _ (.tail _ (.head _))))))))
        exact absurd (congrArg Obj.cls e2) (by intro h; exact absurd (Value.type.inj h) (by decide))
      · exact offB p hp
    refine ⟨D', ws ++ [(nw, tn)], c2, rfl, ?_, ?_, hch.next (by omega) hb, by rw [List.length_append, hlen]; rfl⟩
    · walk_at "NM"
    · exact if_pos rfl
end
-- Lbest
section
theorem name_it {α : Type} (a : α) {G : Prop} (k : ∀ x, x = a → G) : G := k a rfl
inductive RetsB (pl : Addr) (bs : List (Array UInt8 × Tok)) (n : Nat) (h₀ : Heap) (L : Addr) (m : Str → Option Value) (news : List (Addr × Obj)) (s : Shared) (Q : Value → Shared → Prop) : Prop
  | mk (rest : List (Addr × Obj)) (h1 : (125, tabObj #[]) ∈ news) (h2 : (148, tabObj #[]) ∈ news) (h3 : (pl, PySem.W.listOf (bs.map bytV).toArray n) ∈ news) (h4 : ∀ p ∈ rest, p ∈ news) (h5 : ∀ p ∈ rest, p.1 ≠ 125 ∧ p.1 ≠ 148) (h6 : pl ≠ 125) (h7 : pl ≠ 148) (h8 : @LT.lt Nat _ 148 L)
    (h : ∀ (D : Addr) (ws : List (Str × Tok)) c (ps pt : Array Value) h' tk', Chain bs ws → ws.length = 6 → Fr h₀ L h' m → News h₀ L h' ((D, PySem.W.listOf (ws.map strV).toArray c) :: (pl, PySem.W.listOf (bs.map bytV).toArray n) :: (125, tabObj ps) :: (148, tabObj pt) :: rest) → Q (.ref D) { s with heap := h', toks := tk' }) : RetsB pl bs n h₀ L m news s Q
theorem codeHd152 {w : World} {g : Heap} : PySem.Challenge.rw_il0164_01.row.prog = PySem.Challenge.rw_il0164_01.row.prog → (hd.heap_39 w.params).In g → CodeHd g 152 148 := by
  k_fill
  intro _ X
  exact ⟨_, _, _, _, _, _, _, _, _, X _ _ (by k_is), rfl, rfl, rfl, rfl, rfl, rfl, rfl, rfl, by decide⟩
theorem range_newL {prog : Program} {w : World} {A : Around} {E : Value → Shared → Prop} {s : Shared} {h₀ : Heap} {L : Addr} {m : Str → Option Value} {news : List (Addr × Obj)} {a b : Int} {t u : Tok} {Q : Value → Shared → Prop} (F : Fr h₀ L s.heap m) (N : News h₀ L s.heap news)
    (h : ∀ (r : Addr) h' tk t u v, Fr h₀ L h' m → News h₀ L h' ((r, rngO a b t u v) :: news) → (∀ p ∈ news, p.1 < r) → Q (.ref r) { s with heap := h', toks := tk }) :
    wpAny (model prog w) A (call (.type "range") [.int a t, .int b u]) Q E s :=
  call_range_2 (h _ _ _ _ _ _ (F.push _) (News.push F N _ rfl) fun q hq => Heap.lt_size (N q hq).1)
theorem news_sw {h₀ h : Heap} {L : Addr} {x1 x2 x3 x4 x5 x6 a b : Addr × Obj} {R : List (Addr × Obj)} (N : News h₀ L h (x1 :: x2 :: x3 :: x4 :: x5 :: x6 :: a :: b :: R)) : News h₀ L h (x1 :: x2 :: x3 :: x4 :: x5 :: x6 :: b :: a :: R) := fun p hp => N p (by
  simp only [List.mem_cons] at hp ⊢
  rcases hp with h | h | h | h | h | h | h | h | h <;> (repeat (first | exact h | exact Or.inl h | apply Or.inr)))
theorem news_pick4 {h₀ h : Heap} {L : Addr} {a b c d : Addr × Obj} {l rest : List (Addr × Obj)} (N : News h₀ L h l) (ha : a ∈ l) (hb : b ∈ l) (hc : c ∈ l) (hd : d ∈ l) (hr : ∀ p ∈ rest, p ∈ l) : News h₀ L h (a :: b :: c :: d :: rest) := fun p hp => N p (by
  simp only [List.mem_cons] at hp
  rcases hp with rfl | rfl | rfl | rfl | hp
  · exact ha
  · exact hb
  · exact hc
  · exact hd
  · exact hr p hp)
theorem lbest {w : World} (pl : Addr) (bs : List (Array UInt8 × Tok)) (hbl : bs.length = 5) (hbz : ∀ b ∈ bs, 0 < b.1.size ∧ b.1.size ≤ 40) (n : Nat) : CallsTo w 153 [.ref pl] [] 40 500 (RetsB pl bs n) := by
  unfold CallsTo
  k_fill
  refine gr_via (fun fx => RedA w fx → _) (by k_is) ?_ (red_all w _ (grown_all w))
  dsimp only [grFxO]
  intro rd
  intros; rename_i hret
  obtain ⟨rest, h125, h148, hpl, hrest, hrn, hp5, hp8, hL, hret⟩ := hret
  refine wpAny_call ?_
  refine' code_defC ?k1h35 ?k2h35 ?k3h35 ?k4h35 ?k5h35 ?kAh35 ?kFh35 ?kKh35 ?k6h35 ?k7h35 ?k8h35 ?k9h35 ?kBh35 ?kDh35 ?_ ?c2h35 ?c3h35 ?c4h35; (case kAh35 | kFh35 => exact rfl); (case kKh35 => first | assumption | exact rfl); (case k1h35 | k2h35 | k3h35 | k4h35 | k5h35 => k_asm); (case k6h35 | k7h35 => k_is); (case k8h35 => ktr_room); (case k9h35 => first | exact BindsTo.of_eq rfl | exact binds_K (by k_in) rfl (by k_is) rfl rfl rfl); (case kBh35 | c2h35 | c3h35 | c4h35 => exact rfl); (case kDh35 => decide +kernel); k_whole; intro g L1 h1 tk1 icells FG F1 N1 iY B1 X1 T1 l1; (try k_lt l1); k_cells iY; (try simp only [List.cons_append, List.nil_append] at N1); (try dsimp only); (try k_lift B1); (try k_fold)
  rename_i oC oP hC hP
  have hC2 : oC.data = .cell none := hC.trans (by kernel_rfl)
  have hP2 : oP.data = .cell (some (.ref pl)) := hP.trans (by kernel_rfl)
  clear hC hP
  have hL1 : @LT.lt Nat _ 148 L1 := l1 _ h148
  have lpl : @LT.lt Nat _ pl L1 := l1 _ hpl
  have lrest : ∀ p ∈ rest, @LT.lt Nat _ p.1 L1 := fun p hp => l1 p (hrest p hp)
  clear l1
  iterate 8 (any_goals (walk_at "ONE"))
  refine ⟨X1.keeps F1.keep, ?_⟩
  refine use_call ctk B1 F1 X1 N1 T1 rfl ?hd ?hu ⟨(L1 + 1 + 1, oC) :: (L1 + 1, oP) :: (148, tabObj #[]) :: (pl, PySem.W.listOf (bs.map bytV).toArray n) :: rest, .tail _ (.tail _ h125), ?hin, Nat.lt_trans (by decide) hL1, ?_⟩
  case hd => ktr_room
  case hu => ktr_units
  case hin =>
    intro p hp
    simp only [List.mem_cons] at hp
    rcases hp with rfl | rfl | rfl | rfl | hp
    · exact ⟨.head _, Nat.ne_of_gt (Nat.lt_trans (by decide) (Nat.lt_trans hL1 (Nat.lt_trans (Nat.lt_succ_self _) (Nat.lt_succ_self _))))⟩
    · exact ⟨.tail _ (.head _), Nat.ne_of_gt (Nat.lt_trans (by decide) (Nat.lt_trans hL1 (Nat.lt_succ_self _)))⟩
    · exact ⟨.tail _ (.tail _ h148), by decide⟩
    · exact ⟨.tail _ (.tail _ hpl), hp5⟩
    · exact ⟨.tail _ (.tail _ (hrest p hp)), (hrn p hp).1⟩
  intro q u c0 c1 v0 v1 cell co ps h2 tk2 ok hco nd lt F2 N2
  dsimp only
  refine name_it (((cell, co) :: kls q u c0 c1 v0 v1) ++ (125, tabObj ps) :: rest) ?_
  intro Rk hRk
  have KL : KLed w q u c0 c1 cell v0 v1 co Rk := ⟨ok, hco, by rw [hRk]; exact .head _, fun p hp => by rw [hRk]; exact List.mem_append_left _ (.tail _ hp), nd⟩
  have hRr : ∀ p ∈ rest, p ∈ Rk := fun p hp => by rw [hRk]; exact List.mem_append_right _ (.tail _ hp)
  have hRt : (125, tabObj ps) ∈ Rk := by rw [hRk]; exact List.mem_append_right _ (.head _)
  have N3 : News g L1 h2 ((L1 + 1 + 1, oC) :: (L1 + 1, oP) :: (148, tabObj #[]) :: (pl, PySem.W.listOf (bs.map bytV).toArray n) :: Rk) := fun p hp => by
    simp only [List.mem_cons] at hp
    rcases hp with rfl | rfl | rfl | rfl | hp
    · exact N2 _ (List.mem_append_right _ (.tail _ (.head _)))
    · exact N2 _ (List.mem_append_right _ (.tail _ (.tail _ (.head _))))
    · exact N2 _ (List.mem_append_right _ (.tail _ (.tail _ (.tail _ (.head _)))))
    · exact N2 _ (List.mem_append_right _ (.tail _ (.tail _ (.tail _ (.tail _ (.head _))))))
    · rw [hRk] at hp
      rcases List.mem_append.mp hp with hp | hp
      · exact N2 _ (List.mem_append_left _ hp)
      · rcases List.mem_cons.mp hp with rfl | hp
        · exact N2 _ (List.mem_append_right _ (.head _))
        · exact N2 _ (List.mem_append_right _ (.tail _ (.tail _ (.tail _ (.tail _ (.tail _ hp))))))
  have hdat : ∀ p ∈ (cell, co) :: kls q u c0 c1 v0 v1, p.2.data ≠ .cell none ∧ p.2 ≠ tabObj #[] := by
    intro p hp
    simp only [List.mem_cons, List.not_mem_nil, or_false] at hp
    rcases hp with rfl | rfl | rfl | rfl | rfl | rfl | rfl | rfl
    · refine ⟨fun e => ?_, fun e => ?_⟩
      · rw [hco] at e; cases e
      · have h2 := (congrArg Obj.data e).symm.trans hco
        cases h2
    all_goals exact ⟨(fun e => nomatch e), fun e => absurd (congrArg Obj.cls e) (fun h => nomatch h)⟩
  have hneC : ∀ p ∈ (L1 + 1, oP) :: (148, tabObj #[]) :: (pl, PySem.W.listOf (bs.map bytV).toArray n) :: Rk, p.1 ≠ L1 + 1 + 1 := by
    intro p hp
    simp only [List.mem_cons] at hp
    rcases hp with rfl | rfl | rfl | hp
    · exact Nat.ne_of_lt (Nat.lt_succ_self _)
    · exact Nat.ne_of_lt (Nat.lt_trans hL1 (Nat.lt_trans (Nat.lt_succ_self _) (Nat.lt_succ_self _)))
    · exact Nat.ne_of_lt (Nat.lt_trans lpl (Nat.lt_trans (Nat.lt_succ_self _) (Nat.lt_succ_self _)))
    · intro e
      have h2 := news_uniq N3 (a := L1 + 1 + 1) (.head _) (o' := p.2) (by rw [← e]; exact .tail _ (.tail _ (.tail _ (.tail _ hp))))
      rw [hRk] at hp
      rcases List.mem_append.mp hp with hp | hp
      · exact (hdat p hp).1 (h2 ▸ hC2)
      · rcases List.mem_cons.mp hp with rfl | hp
        · exact absurd e (Nat.ne_of_lt (Nat.lt_trans (show @LT.lt Nat _ 125 148 by decide) (Nat.lt_trans hL1 (Nat.lt_trans (Nat.lt_succ_self _) (Nat.lt_succ_self _)))))
        · have := lrest p hp
          rw [e] at this
          exact absurd this (Nat.not_lt.mpr (Nat.le_trans (Nat.le_succ _) (Nat.le_succ _)))
  have hne8 : ∀ p ∈ (pl, PySem.W.listOf (bs.map bytV).toArray n) :: Rk, p.1 ≠ 148 := by
    intro p hp
    rcases List.mem_cons.mp hp with rfl | hp
    · exact hp8
    · intro e
      have h2 := news_uniq N3 (a := 148) (.tail _ (.tail _ (.head _))) (o' := p.2) (by rw [← e]; exact .tail _ (.tail _ (.tail _ (.tail _ hp))))
      rw [hRk] at hp
      rcases List.mem_append.mp hp with hp | hp
      · exact (hdat p hp).2 h2.symm
      · rcases List.mem_cons.mp hp with rfl | hp
        · exact absurd e (show ¬ @Eq Nat 125 148 by decide)
        · exact (hrn p hp).2 e
  clear N2 N1 F1 hRk ok nd hco
  have CH := codeHd152 rfl X1
  refine' storeX_C (c := L1 + 1 + 1) F2 N3 ?cc ?U hC2 ?kk ?hk ?hx
  case cc => kernel_rfl
  case U => exact .head hneC
  case hk => kernel_rfl
  case hx => kernel_rfl
  intro h3 oC' F3 N3' hC3
  dsimp only
  iterate 24 (walk_at "ONE")
  k_here
  refine Calls.call_len_list (items := (bs.map bytV).toArray) (News.isList (by k_asm) (by k_mem)) (by rw [List.size_toArray, List.length_map, hbl]; decide) ?_
  rw [List.size_toArray, List.length_map, hbl]
  try dsimp only
  iterate 3 (walk_at "ONE")
  k_here
  refine range_newL (b := 6) (by k_asm) (by k_asm) ?_
  intro r h4 tk4 r1 r2 r3 F4 N4 l4
  try dsimp only
  iterate 7 (walk_at "ONE")
  rename Fr g L1 _ _ => F8
  refine ⟨X1.keeps F8.keep, ?_⟩
  k_here
  try dsimp only
  refine' rd _ _ _ _ _ _ _ _ _ _ _ _ _ _ _ _ _ _ _ _ _ _ _ _ _ _ _ _ _ _ _ _ _ _ _ _ _ _ _ _ _ _ _ _ _ _ _ _ _ _ _ _ _ _ ?qB ?qF ?qX (news_sw ?qN) ?qT ?qk ?qd ?qu cps_e ?qog ?qvs hP2 hC3 (KL.mono fun p hp => .tail _ hp) hbl hbz ?qR
  case qB => k_asm
  case qF => k_asm
  case qX => k_asm
  case qN => k_asm
  case qT => k_asm
  case qk => rfl
  case qd => ktr_room
  case qu => ktr_units
  case qog => assumption
  case qvs => assumption
  intro D ws c9 h9 tk9 hch hws F9 N9
  try dsimp only
  iterate 1 (walk_at "ONE")
  rename News _ _ _ _ => N10
  rename Fr _ _ _ _ => F10
  exact hret D ws c9 ps _ _ _ hch hws F10 (news_pick4 N10 (.head _) (.tail _ (.tail _ (.tail _ (.tail _ (.tail _ (.head _)))))) (.tail _ (.tail _ (.tail _ (.tail _ (.tail _ (.tail _ (.tail _ hRt))))))) (.tail _ (.tail _ (.tail _ (.tail _ (.tail _ (.tail _ (.head _))))))) fun p hp => .tail _ (.tail _ (.tail _ (.tail _ (.tail _ (.tail _ (.tail _ (hRr p hp))))))))
end
-- Lens
section
section
variable {prog : Program} {w : World} {A : Around} {E : Value → Shared → Prop} {s : Shared} {env : Env} {h₀ : Heap} {target : Expr} {body : List Stmt} {Q : Flow → Shared → Prop}
theorem UnrPostW.mono {L : Addr} {s₁ : Shared} {its : List (Addr × Obj)} {r r' : (Str → Option Value) → List (Addr × Obj) → Prop} (hr : ∀ m n, r m n → r' m n) {f : Flow} {s₂ : Shared} (h : UnrPostW h₀ L s₁ its r Q f s₂) : UnrPostW h₀ L s₁ its r' Q f s₂ := by
  have go : UnrEndW h₀ L s₁ its r s₂ → UnrEndW h₀ L s₁ its r' s₂ := fun ⟨h', tk, m', n', a, b, c, d, e⟩ => ⟨h', tk, m', n', a, b, c, d, hr _ _ e⟩
  cases f with
  | ret v => exact h
  | brk => exact h
  | next => exact go h
  | cont => exact go h
theorem AllObj.mono : ∀ {ws : List (Addr × String)} {k k' : List (Addr × Obj) → Prop}, (∀ its, k its → k' its) → AllObj ws k → AllObj ws k'
  | [], _, _, hk, h => hk _ h
  | _ :: _, _, _, hk, h => fun o ho => AllObj.mono (fun its => hk _) (h o ho)
theorem items_ind {ws : List (Addr × String)} {keep : List (Addr × Obj)} {xs : List Itm} (INV : Nat → (Str → Option Value) → List (Addr × Obj) → Prop)
    (step : ∀ (i : Nat) (x : Itm) (m : Str → Option Value) (news : List (Addr × Obj)), xs[i]? = some x → INV i m news → ∀ v h tk, x.Is v h → Fr h₀ env.locals h m → AllObj ws (fun its => News h₀ env.locals h (its ++ news) →
      wpAny (model prog w) A (assign target env v) (fun _ s₂ => wpAny (model prog w) A (execs body env) (UnrPostW h₀ env.locals { s with heap := h, toks := tk } its (fun m' n' => SubL keep n' ∧ INV (i + 1) m' n') Q) E s₂) E { s with heap := h, toks := tk }))
    (fin : ∀ (m : Str → Option Value) (news : List (Addr × Obj)) (h : Heap) (tk : Nat), INV xs.length m news → Fr h₀ env.locals h m → News h₀ env.locals h news → Q .next { s with heap := h, toks := tk }) :
    ∀ (ys : List Itm) (i : Nat) m news, xs.drop i = ys → i ≤ xs.length → INV i m news → ItemsRest prog w A E h₀ env target body Q s ws keep ys m news := by
  intro ys
  induction ys with
  | nil =>
    intro i m news e hl hI
    have : i = xs.length := by
      have := congrArg List.length e
      rw [List.length_drop, List.length_nil] at this; omega
    subst this
    exact fun h tk F N => fin _ _ h tk hI F N
  | cons y ys ih =>
    intro i m news e hl hI
    have hlt : i < xs.length := by
      have := congrArg List.length e
      rw [List.length_drop, List.length_cons] at this; omega
    have hx : xs[i]? = some y := by
      rw [List.drop_eq_getElem_cons hlt] at e
      rw [List.getElem?_eq_getElem hlt]
      exact congrArg some (List.cons.inj e).1
    have he : xs.drop (i + 1) = ys := by
      rw [List.drop_eq_getElem_cons hlt] at e
      exact (List.cons.inj e).2
    intro v h tk hv F
    refine AllObj.mono (fun its hk N => ?_) (step i y m news hx hI v h tk hv F)
    exact wpAny_mono (hk N) (fun _ s₂ h₂ => wpAny_mono h₂ (fun f s₃ h₃ => UnrPostW.mono (fun m' n' hm => ⟨hm.1, ih (i + 1) m' n' he hlt hm.2⟩) h₃) fun _ _ e => e) fun _ _ e => e
end
theorem zip_inv {xs ys : List Value} {i : Nat} {x : Itm} (h : (zipItems xs ys)[i]? = some x) : ∃ a b, xs[i]? = some a ∧ ys[i]? = some b ∧ x = .pair (fun _ => a) b := by
  have hlt := (List.getElem?_eq_some_iff.mp h).1
  rw [zipItems_length] at hlt
  have h1 : i < xs.length := by omega
  have h2 : i < ys.length := by omega
  have e1 : xs[i]? = some xs[i] := List.getElem?_eq_getElem h1
  have e2 : ys[i]? = some ys[i] := List.getElem?_eq_getElem h2
  have := zipItems_get xs ys i e1 e2
  rw [this] at h
  exact ⟨_, _, e1, e2, (Option.some.inj h).symm⟩
def lenW (cs rs : List Int) (i : Nat) : LS := lst (fun j => cs.getD j 0) (fun j => rs.getD j 0) i
inductive LenI (cs rs : List Int) (lenL cG cR cO ca ra : Addr) (vc vr : List Value) (n1 n2 : Nat) (news0 : List (Addr × Obj)) (i : Nat) (m : Str → Option Value) (news' : List (Addr × Obj)) : Prop
  | mk (O : Addr) (c c2 : Nat) (us : List Value) (t1 t2 u0 u1 u2 : Tok) (oG oR oO : Obj) (v2 v3 : Option Value)
    (e : news' = (O, PySem.W.listOf #[.int (lenW cs rs i).o0 u0, .int (lenW cs rs i).o1 u1, .int (lenW cs rs i).o2 u2] c) :: (lenL, PySem.W.listOf us.toArray c2) :: (cG, oG) :: (cR, oR) :: (cO, oO) :: (ca, PySem.W.listOf vc.toArray n1) :: (ra, PySem.W.listOf vr.toArray n2) :: news0)
    (hl : m (Str.ofString "least") = some (.int (lenW cs rs i).t t1)) (hq : m (Str.ofString "quoted") = some (.int (lenW cs rs i).q t2)) (hL : m (Str.ofString "lengths") = some (.ref lenL))
    (hG : oG.data = .cell v3) (hR : oR.data = .cell v2) (hO : oO.data = .cell (some (.ref O))) (hus : IntsAre us ((List.range i).map fun j => (lenW cs rs (j + 1)).t))
    (d1 : @Ne Nat O lenL) (d2 : @Ne Nat O cG) (d3 : @Ne Nat O cR) (d4 : @Ne Nat O cO) (d5 : @Ne Nat O ca) (d6 : @Ne Nat O ra) (d7 : ∀ p ∈ news0, p.1 ≠ O) : LenI cs rs lenL cG cR cO ca ra vc vr n1 n2 news0 i m news'
theorem tail_ne {l : List (Addr × Obj)} {K a : Nat} (h : ∀ p ∈ l, @LT.lt Nat _ p.1 K) (hl : K ≤ a) : ∀ p ∈ l, p.1 ≠ a := fun p hp => Nat.ne_of_lt (Nat.lt_of_lt_of_le (h p hp) hl)
theorem news_2 {h₀ h : Heap} {L : Addr} {x y : Addr × Obj} {r : List (Addr × Obj)} (N : News h₀ L h (x :: y :: r)) : News h₀ L h (y :: x :: r) := fun p hp => N p (by
  rcases List.mem_cons.mp hp with rfl | hp
  · exact .tail _ (.head _)
  · rcases List.mem_cons.mp hp with rfl | hp
    · exact .head _
    · exact .tail _ (.tail _ hp))
theorem ne_of_cls {h₀ h : Heap} {L a b : Addr} {news : List (Addr × Obj)} {o o' : Obj} {c c' : Value} (N : News h₀ L h news) (h1 : (a, o) ∈ news) (h2 : (b, o') ∈ news) (e1 : o.cls = c) (e2 : o'.cls = c') (hc : c ≠ c') : @Ne Nat a b := fun e => by
  subst e
  have := (N _ h1).1.symm.trans (N _ h2).1
  exact hc (e1.symm.trans ((congrArg Obj.cls (Option.some.inj this)).trans e2))
local macro_rules | `(tactic| k_all) => `(tactic| first | (with_reducible assumption) | (exact tail_ne (by with_reducible assumption) (by omega)))
theorem z5_le {I : Nat} {o1 o2 o3 o4 o5 : Obj} : ∀ q ∈ [((I + 4 : Nat), o1), (I + 2, o2), (I + 3, o3), (I, o4), (I + 1, o5)], @LE.le Nat _ I q.1 := fun q hq => by
  simp only [List.mem_cons, List.not_mem_nil, or_false] at hq
  rcases hq with rfl | rfl | rfl | rfl | rfl
  · exact Nat.le_add_right _ _
  · exact Nat.le_add_right _ _
  · exact Nat.le_add_right _ _
  · exact Nat.le_refl _
  · exact Nat.le_add_right _ _
theorem r_ne {I a ca ra : Nat} {z1 z2 z3 z4 z5 oc or : Obj} {news : List (Addr × Obj)} (h4 : I + 4 ≠ a) (h2 : I + 2 ≠ a) (h3 : I + 3 ≠ a) (h0 : I ≠ a) (h1 : I + 1 ≠ a) (hc : ca ≠ a) (hr : ra ≠ a) (hn : ∀ p ∈ news, p.1 ≠ a) :
    ∀ p ∈ (((I + 4 : Nat), z1) :: ((I + 2 : Nat), z2) :: ((I + 3 : Nat), z3) :: ((I : Nat), z4) :: ((I + 1 : Nat), z5) :: ((ca : Nat), oc) :: ((ra : Nat), or) :: news : List (Addr × Obj)), p.1 ≠ a := fun p hp => by
  rcases List.mem_cons.mp hp with rfl | hp
  · exact h4
  rcases List.mem_cons.mp hp with rfl | hp
  · exact h2
  rcases List.mem_cons.mp hp with rfl | hp
  · exact h3
  rcases List.mem_cons.mp hp with rfl | hp
  · exact h0
  rcases List.mem_cons.mp hp with rfl | hp
  · exact h1
  rcases List.mem_cons.mp hp with rfl | hp
  · exact hc
  rcases List.mem_cons.mp hp with rfl | hp
  · exact hr
  exact hn p hp
theorem r_lt {I a ca ra : Nat} {z1 z2 z3 z4 z5 oc or : Obj} {news : List (Addr × Obj)} (h : a < I) (hc : ca ≠ a) (hr : ra ≠ a) (hn : ∀ p ∈ news, p.1 ≠ a) :
    ∀ p ∈ (((I + 4 : Nat), z1) :: ((I + 2 : Nat), z2) :: ((I + 3 : Nat), z3) :: ((I : Nat), z4) :: ((I + 1 : Nat), z5) :: ((ca : Nat), oc) :: ((ra : Nat), or) :: news : List (Addr × Obj)), p.1 ≠ a :=
  r_ne (Nat.ne_of_gt (Nat.lt_of_lt_of_le h (Nat.le_add_right _ _))) (Nat.ne_of_gt (Nat.lt_of_lt_of_le h (Nat.le_add_right _ _))) (Nat.ne_of_gt (Nat.lt_of_lt_of_le h (Nat.le_add_right _ _))) (Nat.ne_of_gt h) (Nat.ne_of_gt (Nat.lt_of_lt_of_le h (Nat.le_add_right _ _))) hc hr hn
theorem r_news {h₀ h : Heap} {L : Addr} {z1 z2 z3 z4 z5 o l g r c a b : Addr × Obj} {R : List (Addr × Obj)} (N : News h₀ L h (z1 :: z2 :: z3 :: z4 :: z5 :: o :: l :: g :: r :: c :: a :: b :: R)) : News h₀ L h (o :: l :: g :: r :: c :: z1 :: z2 :: z3 :: z4 :: z5 :: a :: b :: R) := fun p hp => N p (by
  simp only [List.mem_cons] at hp ⊢
  rcases hp with h | h | h | h | h | h | h | h | h | h | h | h | h <;> (repeat (first | exact h | exact Or.inl h | apply Or.inr)))
theorem mem_R {α : Type} {x : α} {l R : List α} (hR : l = R) (h : x ∈ l) : x ∈ R := hR ▸ h
theorem abs2 {α β : Type} {M : Model} {A : Around} {t : Sem α} {t2 : Sem β} {E : Value → Shared → Prop} {s : Shared} {Q : β → Shared → Prop} (h : ∀ Q', Toward Q Q' → wpAny M A t (fun _ s₂ => wpAny M A t2 Q' E s₂) E s) : wpAny M A t (fun _ s₂ => wpAny M A t2 Q E s₂) E s := h Q fun _ _ x => x
theorem item3 {prog : Program} {w : World} {A : Around} {E : Value → Shared → Prop} {s : Shared} {value slice : PySem.Expr} {a : Addr} {x0 x1 x2 k : Int} {u0 u1 u2 u : Tok} {Q : Value → Shared → Prop} (hl : s.heap.IsList a [Value.int x0 u0, .int x1 u1, .int x2 u2].toArray) (h0 : 0 ≤ k) (h3 : k < 3)
    (h : ∀ t, Q (.int (pick3 x0 x1 x2 k) t) s)
    (hs : subscripted slice false (.ref a) (.int k u) = operate [.ref a, .int k u] (getItem (.ref a) (.int k u)) := by with_unfolding_all rfl) (hg : ∀ r, letTemporaryGo value (.ref a) r = pure () := by intro _; with_unfolding_all rfl) :
    wpAny (model prog w) A (subscriptTail value slice (.ref a) (.int k u)) Q E s := by
  have hk : k = 0 ∨ k = 1 ∨ k = 2 := by omega
  rcases hk with rfl | rfl | rfl
  · exact item_listL hl (by omega) (by omega) (x := .int x0 u0) rfl (h u0) hs hg
  · exact item_listL hl (by omega) (by omega) (x := .int x1 u1) rfl (h u1) hs hg
  · exact item_listL hl (by omega) (by omega) (x := .int x2 u2) rfl (h u2) hs hg
theorem ints3 {ys : List Value} {g : Int → Int} (h : IntsAre ys ((rangeKs 0 3).map g)) : ∃ a0 a1 a2, a0 = g 0 ∧ a1 = g 1 ∧ a2 = g 2 ∧ ∃ t0 t1 t2, ys = [Value.int a0 t0, .int a1 t1, .int a2 t2] := by
  have h : IntsAre ys [g 0, g 1, g 2] := h
  obtain ⟨t0, r, rfl, h1⟩ := ints_cons h
  obtain ⟨t1, r, rfl, h2⟩ := ints_cons h1
  obtain ⟨t2, r, rfl, h3⟩ := ints_cons h2
  cases h3
  exact ⟨_, _, _, rfl, rfl, rfl, t0, t1, t2, rfl⟩
@[elab_as_elim] theorem ints3k {ys : List Value} {g : Int → Int} (h : IntsAre ys ((rangeKs 0 3).map g)) {P : List Value → Prop} (k : ∀ a0 a1 a2 t0 t1 t2, a0 = g 0 → a1 = g 1 → a2 = g 2 → P [Value.int a0 t0, .int a1 t1, .int a2 t2]) : P ys := by
  obtain ⟨a0, a1, a2, e0, e1, e2, t0, t1, t2, rfl⟩ := ints3 h
  exact k _ _ _ _ _ _ e0 e1 e2
@[elab_as_elim] theorem zip_ints_k (v : Value) {vc vr : List Value} {cs rs : List Int} (hc : IntsAre vc cs) (hr : IntsAre vr rs) {i : Nat} {x : Itm} {h : Heap} (hx : (zipItems vc vr)[i]? = some x) (hv : x.Is v h) {G : Value → Prop} (k : ∀ T c1 r1 tc tr, cs[i]? = some c1 → rs[i]? = some r1 → IsTup h T #[Value.int c1 tc, .int r1 tr] → G (.ref T)) : G v := by
  obtain ⟨a, b, ha, hb, rfl⟩ := zip_inv hx
  obtain ⟨c1, tc1, rfl, ec1⟩ := IntsAre.at hc i a ha
  obtain ⟨r1, tr1, rfl, er1⟩ := IntsAre.at hr i b hb
  obtain ⟨T, _, rfl, hT⟩ := hv
  exact k T c1 r1 tc1 tr1 ec1 er1 hT
theorem nx_o (s : LS) (r j : Int) : pick3 (pick3 (if s.t + 9 < [s.o0, s.o1, s.o2].getD (Int.toNat 0) 0 then s.t + 9 else [s.o0, s.o1, s.o2].getD (Int.toNat 0) 0) s.o1 s.o2 0 + 4 * ((0 + r + 2).fdiv 3 - Int.fdiv (0 + 2) 3)) (pick3 (if s.t + 9 < [s.o0, s.o1, s.o2].getD (Int.toNat 0) 0 then s.t + 9 else [s.o0, s.o1, s.o2].getD (Int.toNat 0) 0) s.o1 s.o2 1 + 4 * ((1 + r + 2).fdiv 3 - Int.fdiv (1 + 2) 3)) (pick3 (if s.t + 9 < [s.o0, s.o1, s.o2].getD (Int.toNat 0) 0 then s.t + 9 else [s.o0, s.o1, s.o2].getD (Int.toNat 0) 0) s.o1 s.o2 2 + 4 * ((2 + r + 2).fdiv 3 - Int.fdiv (2 + 2) 3)) ((j - r).fmod 3) = s.gp r j := by
  have e0 : (if s.t + 9 < [s.o0, s.o1, s.o2].getD (Int.toNat 0) 0 then s.t + 9 else [s.o0, s.o1, s.o2].getD (Int.toNat 0) 0) = min s.o0 (s.t + 9) := by
    show (if s.t + 9 < s.o0 then s.t + 9 else s.o0) = _
    split <;> omega
  rw [e0]
  simp only [Int.fdiv_eq_ediv_of_nonneg _ (show (0 : Int) ≤ 3 by decide), Int.fmod_eq_emod_of_nonneg _ (show (0 : Int) ≤ 3 by decide)]
  rfl
theorem nx_q (s : LS) (c r : Int) : (if s.t + 9 < s.q then s.t + 9 else s.q) + c * r = s.q' c r := by
  unfold LS.q'
  congr 1
  split <;> omega
theorem nx_q' {s : LS} {c r q : Int} (h : (if s.t + 9 < s.q then s.t + 9 else s.q) + c * r = q) : q = s.q' c r := h ▸ nx_q s c r
theorem nx_o' {s : LS} {r o x0 x1 x2 z : Int} (j : Int) (ho : (if s.t + 9 < [s.o0, s.o1, s.o2].getD (Int.toNat 0) 0 then s.t + 9 else [s.o0, s.o1, s.o2].getD (Int.toNat 0) 0) = o) (h0 : x0 = pick3 o s.o1 s.o2 0 + 4 * ((0 + r + 2).fdiv 3 - Int.fdiv (0 + 2) 3)) (h1 : x1 = pick3 o s.o1 s.o2 1 + 4 * ((1 + r + 2).fdiv 3 - Int.fdiv (1 + 2) 3)) (h2 : x2 = pick3 o s.o1 s.o2 2 + 4 * ((2 + r + 2).fdiv 3 - Int.fdiv (2 + 2) 3)) (hz : z = pick3 x0 x1 x2 ((j - r).fmod 3)) : z = s.gp r j := by
  subst ho h0 h1 h2 hz
  exact nx_o s r j
theorem nx_t {s : LS} {c r M : Int} (ha : M = s.q' c r ∨ M = s.gp r 0 ∨ M = s.gp r 1 ∨ M = s.gp r 2) (hb : M ≤ s.q' c r ∧ M ≤ s.gp r 0 ∧ M ≤ s.gp r 1 ∧ M ≤ s.gp r 2) : M = (lstep c r s).t :=
  min4_is ha hb
theorem lenW_next {cs rs : List Int} {i : Nat} {c r : Int} (hc : cs[i]? = some c) (hr : rs[i]? = some r) : lenW cs rs (i + 1) = lstep c r (lenW cs rs i) := by
  show lstep (cs.getD i 0) (rs.getD i 0) (lenW cs rs i) = _
  rw [List.getD_eq_getElem?_getD, List.getD_eq_getElem?_getD, hc, hr]; rfl
theorem news_pick {h₀ h : Heap} {L : Addr} {x0 x1 x2 x3 z1 z2 z3 z4 z5 o l g r c a b : Addr × Obj} {n R : List (Addr × Obj)} (hR : z1 :: z2 :: z3 :: z4 :: z5 :: a :: b :: n = R) (N : News h₀ L h (x0 :: x1 :: x2 :: x3 :: o :: l :: g :: r :: c :: R)) : News h₀ L h ([z1, z2, z3, z4, z5] ++ (x2 :: l :: g :: r :: c :: a :: b :: n)) := fun p hp => N p (by
  subst hR
  simp only [List.cons_append, List.nil_append, List.mem_cons] at hp ⊢
  rcases hp with h | h | h | h | h | h | h | h | h | h | h | h | h <;> (repeat (first | exact h | exact Or.inl h | apply Or.inr)))
theorem nx_t' {s : LS} {c r M x0 x1 x2 xq : Int} (hq : xq = s.q' c r) (h0 : x0 = s.gp r 0) (h1 : x1 = s.gp r 1) (h2 : x2 = s.gp r 2) (ha : M = xq ∨ M = x0 ∨ M = x1 ∨ M = x2) (hb : M ≤ xq ∧ M ≤ x0 ∧ M ≤ x1 ∧ M ≤ x2) : M = (lstep c r s).t := by
  subst hq h0 h1 h2
  exact nx_t ha hb
theorem nx_list {D : Addr} {x0 x1 x2 a0 a1 a2 : Int} {w0 w1 w2 : Tok} {l : List (Addr × Obj)} (h0 : x0 = a0) (h1 : x1 = a1) (h2 : x2 = a2) : (D, LCg.lst [.int x0 w0, .int x1 w1, .int x2 w2]) :: l = (D, PySem.W.listOf #[.int a0 w0, .int a1 w1, .int a2 w2] 3) :: l := by
  subst h0 h1 h2; rfl
theorem nx_us {f : Nat → Int} {us : List Value} {i : Nat} {M : Int} {t : Tok} (h : IntsAre us ((List.range i).map f)) (hM : M = f i) : IntsAre (us ++ [.int M t]) ((List.range (i + 1)).map f) := by
  rw [List.range_succ, List.map_append]
  subst hM
  exact h.append (.cons _ _ .nil)
theorem lawlen {w : World} (ca ra : Addr) (vc vr : List Value) (n1 n2 : Nat) (cs rs : List Int) (hc : IntsAre vc cs) (hr : IntsAre vr rs) (hlen : cs.length = rs.length) (hn : cs.length ≤ 1000) (hcb : ∀ c ∈ cs, 0 ≤ c ∧ c ≤ 3) (hrb : ∀ r ∈ rs, 0 ≤ r ∧ r ≤ 100) : CallsTo w 158 [.ref ca, .ref ra] [] 10 100 (fun h₀ L m news s Q => (ca, PySem.W.listOf vc.toArray n1) ∈ news ∧ (ra, PySem.W.listOf vr.toArray n2) ∈ news ∧ ∀ D us c h' tk', IntsAre us ((List.range cs.length).map fun j => (lenW cs rs (j + 1)).t) → Fr h₀ L h' m → News h₀ L h' ((D, PySem.W.listOf us.toArray c) :: news) → Q (.ref D) { s with heap := h', toks := tk' }) := by
  unfold CallsTo
  k_fill
  intros; rename_i h₀ L m news s Q E hB hF hX hN hT hk hd hu hret
  obtain ⟨hca, hra, hret⟩ := hret
  refine wpAny_call ?_
  refine' code_defC ?k1h36 ?k2h36 ?k3h36 ?k4h36 ?k5h36 ?kAh36 ?kFh36 ?kKh36 ?k6h36 ?k7h36 ?k8h36 ?k9h36 ?kBh36 ?kDh36 ?_ ?c2h36 ?c3h36 ?c4h36; (case kAh36 | kFh36 => exact rfl); (case kKh36 => first | assumption | exact rfl); (case k1h36 | k2h36 | k3h36 | k4h36 | k5h36 => k_asm); (case k6h36 | k7h36 => k_is); (case k8h36 => ktr_room); (case k9h36 => first | exact BindsTo.of_eq rfl | exact binds_K (by k_in) rfl (by k_is) rfl rfl rfl); (case kBh36 | c2h36 | c3h36 | c4h36 => exact rfl); (case kDh36 => decide +kernel); k_whole; intro g L' h1 tk1 icells FG F1 N1 iY B1 X1 T1 l0; (try k_lt l0); k_cells iY; (try simp only [List.cons_append, List.nil_append] at N1); (try dsimp only); (try k_lift B1); (try k_fold)
  rename_i o3 o2 o1 hG0 hR0 hO0
  have hG : o3.data = .cell none := hG0.trans (by kernel_rfl)
  have hR : o2.data = .cell none := hR0.trans (by kernel_rfl)
  have hO : o1.data = .cell none := hO0.trans (by kernel_rfl)
  clear hG0 hR0 hO0
  have lca : @LT.lt Nat _ ca L' := l0 _ hca
  have lra : @LT.lt Nat _ ra L' := l0 _ hra
  have N2 : News g L' h1 ((L' + 1 + 1 + 1, o3) :: (L' + 1 + 1, o2) :: (L' + 1, o1) :: (ca, PySem.W.listOf vc.toArray n1) :: (ra, PySem.W.listOf vr.toArray n2) :: _) := fun p hp => N1 p (by
    simp only [List.mem_cons] at hp ⊢
    rcases hp with h | h | h | h | h | h
    · exact .inl h
    · exact .inr (.inl h)
    · exact .inr (.inr (.inl h))
    · exact .inr (.inr (.inr (h ▸ hca)))
    · exact .inr (.inr (.inr (h ▸ hra)))
    · exact .inr (.inr (.inr h)))
  clear N1
  iterate 31 (walk_at "ONE")
  k_here
  (rename Fr _ _ _ _ => lF')
  refine' For_turns lF' ?_
  iterate 8 (walk_at "ONE")
  k_here
  rename_i _ _ O0 _ lO _ oO dO _ lenL _ lL _ N3
  (rename Fr _ _ _ _ => F3)
  refine ktu_zip (xs := vc) (ys := vr) rfl F3 (show News g L' _ (_ :: _) from news_2 N3) (.tail _ (.tail _ (.tail _ (.tail _ (.tail _ (.head _)))))) rfl rfl (.tail _ (.tail _ (.tail _ (.tail _ (.tail _ (.tail _ (.head _))))))) rfl rfl ?_
  intro I l2
  try k_lt l2
  refine items_ind (LenI cs rs lenL (L' + 1 + 1 + 1) (L' + 1 + 1) (L' + 1) ca ra vc vr n1 n2 news) ?step ?fin _ 0 _ _ rfl (Nat.zero_le _) ?ini
  case ini =>
    refine ⟨_, _, _, [], _, _, _, _, _, _, _, _, _, _, rfl, rfl, rfl, rfl, hG, hR, by assumption, .nil, ?_, ?_, ?_, ?_, ?_, ?_, ?_⟩
    · exact Nat.ne_of_lt lL.1
    · omega
    · omega
    · omega
    · omega
    · omega
    · exact tail_ne l0 (by omega)
  case fin =>
    rintro m1 news1 h3 tk3 ⟨O, c, c2, us, t1, t2, u0, u1, u2, oG, oR, oO, v2, v3, rfl, hml, hmq, hmL, hoG, hoR, hoO, hus, hOl, hOG, hOR, hOO, hOca, hOra, hOn⟩ F4 N4
    have hxl : (zipItems vc vr).length = cs.length := by rw [zipItems_length, hc.length, hr.length]; omega
    rw [hxl] at hus
    try dsimp only
    iterate 4 (walk_at "ONE")
    rename Fr h₀ L _ _ => F9
    rename News h₀ L _ _ => N9
    refine hret lenL us c2 _ _ hus F9 (fun p hp => N9 p ?_)
    rcases List.mem_cons.mp hp with rfl | hp
    · exact .tail _ (.head _)
    · exact .tail _ (.tail _ (.tail _ (.tail _ (.tail _ (.tail _ (.tail _ hp))))))
  case step =>
    intro i x m1 news1 hx hI v h4 tk4 hv F4
    refine zip_ints_k v hc hr hx hv ?_
    intro T c1 r1 tc1 tr1 ec1 er1 hT
    clear hx hv
    obtain ⟨O, c, c2, us, t1, t2, u0, u1, u2, oG, oR, oO, v2, v3, rfl, hml, hmq, hmL, hoG, hoR, hoO, hus, hOl, hOG, hOR, hOO, hOca, hOra, hOn⟩ := hI
    obtain ⟨hc0, hc3⟩ := hcb c1 (List.mem_of_getElem? ec1)
    obtain ⟨hr0, hr9⟩ := hrb r1 (List.mem_of_getElem? er1)
    try dsimp only at hT
    ktu_objs
    rename_i z1 hz1 z2 hz2 z3 hz3 z4 hz4 z5 hz5 N5
    have hO4 : @Ne Nat O (I + 4) := ne_of_cls N5 (.tail _ (.tail _ (.tail _ (.tail _ (.tail _ (.head _)))))) (.head _) rfl hz1 (fun h => absurd (Value.type.inj h) (by decide))
    have hO2 : @Ne Nat O (I + 2) := ne_of_cls N5 (.tail _ (.tail _ (.tail _ (.tail _ (.tail _ (.head _)))))) (.tail _ (.head _)) rfl hz2 (fun h => absurd (Value.type.inj h) (by decide))
    have hO3 : @Ne Nat O (I + 3) := ne_of_cls N5 (.tail _ (.tail _ (.tail _ (.tail _ (.tail _ (.head _)))))) (.tail _ (.tail _ (.head _))) rfl hz3 (fun h => absurd (Value.type.inj h) (by decide))
    have hO0 : @Ne Nat O (I) := ne_of_cls N5 (.tail _ (.tail _ (.tail _ (.tail _ (.tail _ (.head _)))))) (.tail _ (.tail _ (.tail _ (.head _)))) rfl hz4 (fun h => absurd (Value.type.inj h) (by decide))
    have hO1 : @Ne Nat O (I + 1) := ne_of_cls N5 (.tail _ (.tail _ (.tail _ (.tail _ (.tail _ (.head _)))))) (.tail _ (.tail _ (.tail _ (.tail _ (.head _))))) rfl hz5 (fun h => absurd (Value.type.inj h) (by decide))
    have rO := r_ne (Ne.symm hO4) (Ne.symm hO2) (Ne.symm hO3) (Ne.symm hO0) (Ne.symm hO1) (Ne.symm hOca) (Ne.symm hOra) hOn (z1 := z1) (z2 := z2) (z3 := z3) (z4 := z4) (z5 := z5) (oc := PySem.W.listOf vc.toArray n1) (or := PySem.W.listOf vr.toArray n2)
    have rL := r_lt l2.2.1 (Nat.ne_of_lt lL.2.2.2.2.1) (Nat.ne_of_lt lL.2.2.2.2.2.1) (fun p hp => Nat.ne_of_lt (allLt_mem lL.2.2.2.2.2.2 p hp)) (z1 := z1) (z2 := z2) (z3 := z3) (z4 := z4) (z5 := z5) (oc := PySem.W.listOf vc.toArray n1) (or := PySem.W.listOf vr.toArray n2)
    have rc : ∀ k : Nat, @LT.lt Nat _ (L' + k) I → _ := fun k hk => r_lt hk (Nat.ne_of_lt (Nat.lt_of_lt_of_le lca (Nat.le_add_right _ _))) (Nat.ne_of_lt (Nat.lt_of_lt_of_le lra (Nat.le_add_right _ _))) (fun p hp => Nat.ne_of_lt (Nat.lt_of_lt_of_le (l0 p hp) (Nat.le_add_right L' k))) (z1 := z1) (z2 := z2) (z3 := z3) (z4 := z4) (z5 := z5) (oc := PySem.W.listOf vc.toArray n1) (or := PySem.W.listOf vr.toArray n2)
    have rG : ∀ p ∈ (_ : List (Addr × Obj)), p.1 ≠ L' + 1 + 1 + 1 := rc 3 l2.2.2.1
    have rR : ∀ p ∈ (_ : List (Addr × Obj)), p.1 ≠ L' + 1 + 1 := rc 2 l2.2.2.2.1
    have rC : ∀ p ∈ (_ : List (Addr × Obj)), p.1 ≠ L' + 1 := rc 1 l2.2.2.2.2.1
    have N6 := r_news N5
    clear N5 rc
    generalize hRe : (((I + 4 : Nat), z1) :: ((I + 2 : Nat), z2) :: ((I + 3 : Nat), z3) :: ((I : Nat), z4) :: ((I + 1 : Nat), z5) :: ((ca : Nat), PySem.W.listOf vc.toArray n1) :: ((ra : Nat), PySem.W.listOf vr.toArray n2) :: news : List (Addr × Obj)) = R at rO rL rG rR rC N6
    refine abs2 ?_
    intro qS hqS
    iterate 54 (walk_at "ONE")
    generalize hq1 : (if (lenW cs rs i).t + 9 < (lenW cs rs i).q then (lenW cs rs i).t + 9 else (lenW cs rs i).q) + c1 * r1 = q1 at *
    generalize ho1 : (if (lenW cs rs i).t + 9 < [(lenW cs rs i).o0, (lenW cs rs i).o1, (lenW cs rs i).o2].getD (Int.toNat 0) 0 then (lenW cs rs i).t + 9 else [(lenW cs rs i).o0, (lenW cs rs i).o1, (lenW cs rs i).o2].getD (Int.toNat 0) 0) = o1 at *
    k_here
    k_dflt (refine LCg.ListComp_U (F₀ := by k_asm) (by with_unfolding_all rfl) (by decide) (by rfl) (by decide) (by rfl) ?_)
    iterate 6 (walk_at "ONE")
    k_here
    refine range1_rows (by k_asm) (by k_asm) ?_
    intro h5 tk5 r1 r2 r3 hr F5 N6 kk
    try dsimp only
    refine LCg.CompSrc.range rfl F5 N6 hr (by rfl) (n := 3) (by rfl) (Nat.le_of_ble_eq_true rfl) ?_
    intro g5
    refine' kcf_range _ (fun k t I2 oI C oC D m2 ys h tk E' hk0 hk3 hC hx F N off ne mk => ?turnA) ?finA
    case turnA =>
      refine wpAny_abs ?_
      intro qA hqA
      try dsimp only
      iterate 28 (first | ((with_reducible show wpAny _ _ (subscriptTail _ _ (Value.ref _) (Value.int _ _)) _ _ _); refine item3 (by exact News.isList (by k_asm) (by k_mem)) (by first | assumption | exact fmod_lo _ (by decide) | omega) (by first | exact fmod_hi _ (by decide) | omega) ?_; intro it) | walk_at "ONE")
      refine Toward.use hqA ?_
      iterate 2 (walk_at "ONE")
    case finA =>
      intro ys hys
      refine ints3k hys ?_
      clear hys
      intro x0 x1 x2 y0 y1 y2 ex0 ex1 ex2
      unfold LCg.FinE
      intro D1 h6 tk6 F6 N7 of1
      skip
      try dsimp only
      iterate 4 (walk_at "ONE")
      k_here
      k_dflt (refine LCg.ListComp_U (F₀ := by k_asm) (by with_unfolding_all rfl) (by decide) (by rfl) (by decide) (by rfl) ?_)
      iterate 6 (walk_at "ONE")
      k_here
      refine range1_rows (by k_asm) (by k_asm) ?_
      intro h5 tk5 r1 r2 r3 hr' F5 N6 kk
      try dsimp only
      refine LCg.CompSrc.range rfl F5 N6 hr' (by rfl) (n := 3) (by rfl) (Nat.le_of_ble_eq_true rfl) ?_
      intro g5
      refine' kcf_range _ (fun k t I2 oI C oC D m2 ys h tk E' hk0 hk3 hC hx F N off ne mk => ?turnB) ?finB
      case turnB =>
        refine wpAny_abs ?_
        intro qA hqA
        try dsimp only
        iterate 10 (first | ((with_reducible show wpAny _ _ (subscriptTail _ _ (Value.ref _) (Value.int _ _)) _ _ _); refine item3 (by exact News.isList (by k_asm) (by k_mem)) (by first | assumption | exact fmod_lo _ (by decide) | omega) (by first | exact fmod_hi _ (by decide) | omega) ?_; intro it) | walk_at "ONE")
        refine Toward.use hqA ?_
        iterate 2 (walk_at "ONE")
      case finB =>
        intro ys hys
        refine ints3k hys ?_
        clear hys
        intro xw0 xw1 xw2 w0 w1 w2 ew0 ew1 ew2
        unfold LCg.FinE
        intro D2 h6 tk6 F6 N7 of2
        skip
        try dsimp only
        iterate 18 (walk_at "ONE")
        rename (_ = _ ∨ _ = _ ∨ _ = _ ∨ _ = _) => ha
        rename (_ ≤ _ ∧ _ ≤ _ ∧ _ ≤ _ ∧ _ ≤ _) => hb
        have hM := nx_t' (s := lenW cs rs i) (nx_q' hq1) (nx_o' 0 ho1 ex0 ex1 ex2 ew0) (nx_o' 1 ho1 ex0 ex1 ex2 ew1) (nx_o' 2 ho1 ex0 ex1 ex2 ew2) ha hb
        clear ha hb
        iterate 11 (walk_at "ONE")
        have hul : us.length = i := by have := hus.length; simpa using this
        have hic : i < cs.length := (List.getElem?_eq_some_iff.mp ec1).1
        k_here
        refine' append_K (its := us.toArray) ?aF ?aN ?aU ?_ ?aZ
        case aF => k_asm
        case aN => k_asm
        case aU => k_upd
        case aZ => rw [List.size_toArray, hul, sizeLine_eq]; omega
        intro h8 F8 N8
        try dsimp only
        iterate 1 (walk_at "ONE")
        refine Toward.use hqS ?_
        iterate 1 (walk_at "ONE")
        have hs := lenW_next ec1 er1
        refine ⟨h8, _, _, _, rfl, F8, news_pick hRe N8, ?eOff, ⟨⟨.tail _ (.tail _ (.tail _ (.tail _ (.tail _ (.head _))))), .tail _ (.tail _ (.tail _ (.tail _ (.tail _ (.tail _ (.head _)))))), trivial⟩, ?eInv⟩⟩
        case eOff =>
          intro p hp q hq
          rcases List.mem_cons.mp hp with rfl | hp
          · exact Ne.symm (off1_mem of2 q (.tail _ (.tail _ (.tail _ (.tail _ (.tail _ (.tail _ (hRe ▸ List.mem_append_left (as := [_, _, _, _, _]) _ hq))))))))
          · exact Nat.ne_of_lt (Nat.lt_of_lt_of_le (allLt_mem (by exact l2.2) p hp) (z5_le q hq))
        case eInv =>
          refine' ⟨D2, 3, _, us ++ [.int _ _], _, _, _, _, _, _, _, _, _, _, ?i1, ?i2, ?i3, ?i4, ?i5, ?i6, ?i7, ?i8, ?i9, ?iA, ?iB, ?iC, ?iD, ?iE, ?iF⟩
          case i1 =>
            rw [hs]
            refine Eq.trans (nx_list (nx_o' 0 ho1 ex0 ex1 ex2 ew0) (nx_o' 1 ho1 ex0 ex1 ex2 ew1) (nx_o' 2 ho1 ex0 ex1 ex2 ew2)) ?_
            rw [List.push_toArray]
            rfl
          case i2 => rw [hs, ← hM]; exact if_pos rfl
          case i3 => rw [hs]; refine Eq.trans ?_ (congrArg (fun z => some (Value.int z _)) (nx_q' hq1)); (walk_at "NM")
          case i4 => (walk_at "NM")
          case i5 => assumption
          case i6 => assumption
          case i7 => assumption
          case i8 => exact nx_us hus (hM.trans (congrArg LS.t hs.symm))
          case i9 => k_ne
          case iA => k_ne
          case iB => k_ne
          case iC => k_ne
          case iD => exact Ne.symm (off1_mem of2 _ (.tail _ (.tail _ (.tail _ (.tail _ (.tail _ (.tail _ (mem_R hRe (.tail _ (.tail _ (.tail _ (.tail _ (.tail _ (.head _))))))))))))))
          case iE => exact Ne.symm (off1_mem of2 _ (.tail _ (.tail _ (.tail _ (.tail _ (.tail _ (.tail _ (mem_R hRe (.tail _ (.tail _ (.tail _ (.tail _ (.tail _ (.tail _ (.head _)))))))))))))))
          case iF => exact fun p hp => off1_mem of2 p (.tail _ (.tail _ (.tail _ (.tail _ (.tail _ (.tail _ (hRe ▸ .tail _ (.tail _ (.tail _ (.tail _ (.tail _ (.tail _ (.tail _ (hp))))))))))))))
end
-- Unq
section
theorem wp_text16 {M : Model} {A : Around} {E : Value → Shared → Prop} {s : Shared} {Q : Value → Shared → Prop} {v : Value} {text : List Nat} {n : Int}
    (hs : (text.takeWhile (· != 0)).length ≤ 640) (hr : (int_private% "readNumeral") 0 16 (text.takeWhile (· != 0)) = (int_private% "Numeral.value") n)
    (ha : ((text.takeWhile (· != 0)).length == text.length) = true) (h : Q (.int n s.toks) { s with toks := s.toks + 1 }) :
    wpAny M A ((int_private% "intFromText") v text 16) Q E s := by
  obtain ⟨hp, g, d, tk, os⟩ := s
  repeat (any_goals (first
    | assumption
    | (with_reducible refine wpAny_ite_true (decide_eq_true hs) ?_)
    | (with_reducible refine wpAny_ite_true (decide_eq_true ha) ?_)
    | wp_step))
  all_goals (try rw [hr])
  all_goals (try dsimp only)
  repeat (any_goals (first
    | assumption
    | (with_reducible refine wpAny_ite_true (decide_eq_true hs) ?_)
    | (with_reducible refine wpAny_ite_true (decide_eq_true ha) ?_)
    | wp_step))
theorem gives_hex {x : PySem.Str} {u v : Tok} {n : Int} (hl : (numSeenOf x).length ≤ 640) (hr : (int_private% "readNumeral") 0 16 (numSeenOf x) = (int_private% "Numeral.value") n) (ha : ((numSeenOf x).length == (numTextOf x).length) = true) :
    Gives (Builtin.«int.__new__» ⟨[.type "int", .str x u, .int 16 v], []⟩) (.int n) :=
  .of_wp fun M A E s Q h => by
    obtain ⟨hp, g, d, tk, os⟩ := s
    have f1 := F.conv_sub_int
    have f2 := F.madeHere_int
    have f3 := KIN.str_int
    have f4 := KIN.str_idx
    have f5 := KIN.str_trunc
    have f6 : typeOf (.str x u) = pure (.type "str") := rfl
    have hk := KIN.Hid.mk (And.intro hl (And.intro hr ha))
    clear hl hr ha
    repeat (any_goals (first
      | assumption
      | ((with_reducible show wpAny _ _ ((int_private% "intFromText") _ _ _) _ _ _); refine wp_text16 hk.out.1 hk.out.2.1 hk.out.2.2 ?_)
      | wp_step))
    all_goals first | exact ⟨_, rfl, h⟩ | skip
theorem typeCall_int_2 (a b : Value) : checkTypeCall "int" ⟨[a, b], []⟩ = pure () := by kernel_rfl
theorem newCall_int_2 (a b : Value) : checkBuiltinCall "int.__new__" ⟨[.type "int", a, b], []⟩ = pure () := by kernel_rfl
section
variable {prog : Program} {w : World} {A : Around} {E : Value → Shared → Prop} {s : Shared}
theorem call_int_2 {x y : Value} {S : PySem.Spec} {Q : Value → Shared → Prop} (g : Meets (Builtin.«int.__new__» ⟨[.type "int", x, y], []⟩) S) (h : S A.in1 (wants (fun obj s₁ => s₁.TypeIs obj "int" ∧ Q obj s₁) E) s) :
    wpAny (model prog w) A (call (.type "int") [x, y]) Q E s :=
  callType_new F.called_int F.newNe_int (typeCall_int_2 x y) (newCall_int_2 x y) (fun obj => F.args_object_init_3 obj x y) F.entry_int_new g h
end
theorem hex_ok : (List.range 256).map (fun c => (int_private% "readNumeral") 0 16 [qhex (c / 16), qhex (c % 16)]) = (List.range 256).map (fun c => (int_private% "Numeral.value") ((c : Nat) : Int)) := by kernel_rfl
theorem hex_lt : (List.range 256).all (fun c => qhex (c / 16) != 0 && qhex (c % 16) != 0 && decide (qhex (c / 16) < 128) && decide (qhex (c % 16) < 128)) = true := by decide +kernel
theorem hex_at {c : Nat} (h : c < 256) : (int_private% "readNumeral") 0 16 [qhex (c / 16), qhex (c % 16)] = (int_private% "Numeral.value") (c : Int) ∧ qhex (c / 16) ≠ 0 ∧ qhex (c % 16) ≠ 0 ∧ qhex (c / 16) < 128 ∧ qhex (c % 16) < 128 := by
  have h1 := List.all_eq_true.mp hex_lt c (List.mem_range.mpr h)
  simp only [Bool.and_eq_true, bne_iff_ne, decide_eq_true_eq] at h1
  obtain ⟨⟨⟨b, d⟩, e⟩, f⟩ := h1
  exact ⟨List.map_inj_left.mp hex_ok c (List.mem_range.mpr h), b, d, e, f⟩
section
variable {prog : Program} {w : World} {A : Around} {E : Value → Shared → Prop} {s : Shared} {Q : Value → Shared → Prop}
theorem call_hex {x : PySem.Str} {t u : Tok} {c : Nat} (hc : c < 256) (hx : x.cps.toList = [qhex (c / 16), qhex (c % 16)]) (h : ∀ t' k, Q (.int (c : Int) t') { s with toks := k }) : wpAny (model prog w) A (call (.type "int") [.str x t, .int 16 u]) Q E s := by
  obtain ⟨h1, h2, h3, h4, h5⟩ := hex_at hc
  have e1 : numTextOf x = [qhex (c / 16), qhex (c % 16)] := by
    have : x.cps = #[qhex (c / 16), qhex (c % 16)] := by rw [← Array.toArray_toList (xs := x.cps), hx]
    show (if x.cps.all (· < 128) then x.cps.toList else _) = _
    rw [if_pos (by rw [this]; simp [h4, h5])]
    exact hx
  have e2 : numSeenOf x = [qhex (c / 16), qhex (c % 16)] := by
    show (numTextOf x).takeWhile (· != 0) = _
    rw [e1]; simp [h2, h3]
  exact call_int_2 (gives_hex (by rw [e2]; exact Nat.le_of_ble_eq_true rfl) (by rw [e2]; exact h1) (by rw [e1, e2]; rfl)).meets (show (Made.int (c : Int)).post _ s from ⟨rfl, h _ _⟩)
end
end
-- Unq4
section
theorem slice_3 (a b c : Nat) {x : Str} (hx : x.cps.toList = [a, b, c]) : (Txt.slice x (some 1) (some 3)).cps.toList = [b, c] := by
  have : x = ⟨#[a, b, c]⟩ := by
    cases x with
    | mk cps => dsimp only at hx; rw [← Array.toArray_toList (xs := cps), hx]
  subst this
  rfl
theorem unq {w : World} (x : Str) (t : Tok) (c : Nat) (hc : c < 256) (hx : x.cps.toList = [61, qhex (c / 16), qhex (c % 16)]) : CallsTo w 96 [.str x t] [] 4 40 (RetsStr (fun y => y.cps.toList = [c])) := by
  unfold CallsTo RetsStr
  k_fill
  intros; rename_i hret
  refine wpAny_call ?_
  refine' code_def ?k1h39 ?k2h39 ?k3h39 ?k4h39 ?k5h39 ?kAh39 ?kFh39 ?kKh39 ?k6h39 ?k7h39 ?k8h39 ?k9h39 ?kBh39 ?_ ?c2h39 ?c3h39 ?c4h39 ?c5h39; (case kAh39 | kFh39 => exact rfl); (case kKh39 => first | assumption | exact rfl); (case k1h39 | k2h39 | k3h39 | k4h39 | k5h39 => k_asm); (case k6h39 | k7h39 => k_is); (case k8h39 => ktr_room); (case k9h39 => first | exact BindsTo.of_eq rfl | exact binds_K (by k_in) rfl (by k_is) rfl rfl rfl); (case c2h39 | c3h39 | c4h39 => exact rfl); (case c5h39 => decide); (case kBh39 => exact locs rfl); k_whole; intro iG iL iH iFG iF iN iB iX iT; (try dsimp only); (try k_lift iB); (try k_fold)
  have hxl : x.length = 3 := by
    show x.cps.size = 3
    rw [← Array.length_toList, hx]; rfl
  iterate 22 (walk_at "ONE")
  k_here
  refine call_hex hc (slice_3 _ _ _ hx) ?_
  intro t5 k5
  try dsimp only
  iterate 4 (walk_at "ONE")
  refine hret _ _ _ _ ?_ ?hF ?hN
  case hF => k_asm
  case hN => k_asm
  show [((c : Int)).toNat] = [c]
  rw [Int.toNat_natCast]
end
-- Unqm
section
abbrev mObj (S : Str) (tS : Tok) (lim li : Int) (T : Addr) : Obj := ⟨.type "re.Match", none, .fields #[.str S tS, .ref 73, rawInt 0, rawInt lim, rawInt li, .ref T], #[]⟩
theorem sl_group : Slot "re.Match" (Str.ofString "group") "re.Match.group" :=
  .of (owner := "re.Match") (n := "group") (by rw [typeLookup_type, builtinLookup_eq_fast]; kernel_rfl) (by decide +kernel) (by decide +kernel) (by decide +kernel)
    (by first | exact .inl (by decide +kernel) | exact .inr (by decide +kernel)) (by rw [isSubtype_type]; kernel_rfl)
theorem ty_group : typeOf (.builtin "re.Match.group") = pure (.type "method_descriptor") := by kernel_rfl
theorem pa_match : PlainAttrs "re.Match" :=
  ⟨⟨"object.__getattribute__", by rw [typeLookup_type, builtinLookup_eq_fast]; kernel_rfl, by decide +kernel⟩, by rw [typeLookup_type, builtinLookup_eq_fast]; kernel_rfl⟩
abbrev tOb (b e : Int) : Obj := seqObj "tuple" #[rawInt b, rawInt e] 0
theorem mgroup {w : World} {M T : Addr} {S : Str} {tS t : Tok} {lim li : Int} {b e : Nat} {A : Around} {E : Value → Shared → Prop} {s : Shared} {h₀ : Heap} {L : Addr} {m : Str → Option Value} {news : List (Addr × Obj)} {p : Program} {loose : List Str} {mean : ExcName → Option Value} {mg mb : Str → Option Value} {Q : Value → Shared → Prop}
    (F : Fr h₀ L s.heap m) (X : (hd.heap_39 w.params).In h₀) (N : News h₀ L s.heap news) (Tp : Top p loose mean mg mb h₀) (hm : (M, mObj S tS lim li T) ∈ news) (hT : (T, tOb b e) ∈ news) (hne : M ≠ T) (hS : S.length ≤ 100000)
    (hQ : ∀ (x : Str) t' h' tk', x.cps = S.cps.extract b e → Fr h₀ L h' m → News h₀ L h' news → Q (.str x t') { s with heap := h', toks := tk' }) : wpAny (model PySem.Challenge.rw_il0164_01.row.prog w) A (call (.builtin "re.Match.group") [.ref M, .int 0 t]) Q E s := by
  obtain ⟨sl, X4⟩ := x4_of X Tp
  have hin : ∀ p ∈ [(M, mObj S tS lim li T), (T, tOb b e)], p ∈ news := fun p hp => by
    simp only [List.mem_cons, List.not_mem_nil, or_false] at hp
    rcases hp with rfl | rfl
    · exact hm
    · exact hT
  have Sx := Sat.led F N hin (by simp [hne])
  have fin : ∀ h', Sat s.heap.objs.size s.heap h₀ 0 [(M, mObj S tS lim li T), (T, tOb b e)] h' → Fr h₀ L h' m ∧ News h₀ L h' news := fun h' S' => by
    have keep := Sat.same (fun p hp => (N p (hin p hp)).1) S'
    exact ⟨F.kept keep, N.grown keep⟩
  refine wpAny_call (go_again (y := ⟨w, sl, s.heap.objs.size, 0, s.toks, .none, none, #[]⟩) X4 99 [.o 0] (nst [(M, mObj S tS lim li T), (T, tOb b e)] 0 s.toks) _ (c' := .builtin "re.Match.group" ⟨[.ref M, .int 0 t], []⟩) Sx rfl rfl (by kernel_rfl) (fun h1 tk1 S1 ht1 => ?_) (by kernel_rfl) (by kernel_rfl))
  refine go_e (b := PySem.Builtin.«re.Match.group») (entryFor_of_tree (by kernel_rfl)) ?_
  unfold Builtin.«re.Match.group»
  refine wpAny_bind (wpAny_of_eq (a := ()) (by kernel_rfl) ?_)
  refine wpAny_bind (leaf (y := ⟨w, sl, s.heap.objs.size, 0, s.toks, .none, none, #[]⟩) X4 99 [.o 0, .o 1] _ _ (⟨#[.str S tS, .ref 73, rawInt 0, rawInt lim, rawInt li, .ref T], #[(b : Int), (e : Int)]⟩ : Builtin.Re.ReFound) S1 ht1 rfl (fun h2 tk2 S2 ht2 => ?_) (by kernel_rfl) (by kernel_rfl))
  try dsimp only
  refine wpAny_bind (leaf (y := ⟨w, sl, s.heap.objs.size, 0, s.toks, .none, none, #[]⟩) X4 99 [] _ _ (0 : Nat) S2 ht2 rfl (fun h3 tk3 S3 ht3 => ?_) (by kernel_rfl) (by kernel_rfl))
  refine wpAny_bind ?_
  unfold Builtin.Re.reGroupText
  dsimp only
  refine wpAny_ite_false (show (decide ((b : Int) < 0) || decide ((e : Int) < 0)) = false from by rw [decide_eq_false (by omega), decide_eq_false (by omega)]; rfl) ?_
  refine wpAny_bind (leaf (y := ⟨w, sl, s.heap.objs.size, 0, s.toks, .none, none, #[]⟩) X4 99 [] _ _ (S.cps, 0) S3 ht3 rfl (fun h4 tk4 S4 ht4 => ?_) (by kernel_rfl) (by kernel_rfl))
  unfold Builtin.Re.reSlice
  refine wpAny_ite_true rfl ?_
  refine wpAny_mkStr ?_ ?_
  · have f6 := fin h4 (S4.cast (by kernel_rfl) (by kernel_rfl))
    exact wpAny_pure (hQ _ _ h4 _ rfl f6.1 f6.2)
  · show (S.cps.extract _ _).size ≤ _
    rw [sizeLine_eq]
    have : S.cps.size ≤ 100000 := hS
    simp only [Array.size_extract]
    omega
theorem unqm {w : World} (M T : Addr) (S : Str) (tS : Tok) (lim li : Int) (b e c : Nat) (hc : c < 256) (hx : (S.cps.extract b e).toList = [61, qhex (c / 16), qhex (c % 16)]) (hS : S.length ≤ 100000) (hne : M ≠ T) :
    CallsTo w 116 [.ref M] [] 10 80 (fun h₀ L m news s Q => (M, mObj S tS lim li T) ∈ news ∧ (T, tOb b e) ∈ news ∧ RetsStr (fun y => y.cps.toList = [c]) h₀ L m news s Q) := by
  unfold CallsTo RetsStr
  k_fill
  intros; rename_i hret
  obtain ⟨hm, hT, hret⟩ := hret
  refine wpAny_call ?_
  refine' code_def ?k1h40 ?k2h40 ?k3h40 ?k4h40 ?k5h40 ?kAh40 ?kFh40 ?kKh40 ?k6h40 ?k7h40 ?k8h40 ?k9h40 ?kBh40 ?_ ?c2h40 ?c3h40 ?c4h40 ?c5h40; (case kAh40 | kFh40 => exact rfl); (case kKh40 => first | assumption | exact rfl); (case k1h40 | k2h40 | k3h40 | k4h40 | k5h40 => k_asm); (case k6h40 | k7h40 => k_is); (case k8h40 => ktr_room); (case k9h40 => first | exact BindsTo.of_eq rfl | exact binds_K (by k_in) rfl (by k_is) rfl rfl rfl); (case c2h40 | c3h40 | c4h40 => exact rfl); (case c5h40 => decide); (case kBh40 => exact locs rfl); k_whole; intro iG iL iH iFG iF iN iB iX iT; (try dsimp only); (try k_lift iB); (try k_fold)
  iterate 5 (walk_at "ONE")
  k_here
  rename Fr _ _ _ _ => F3
  rename News _ _ _ _ => N3
  refine' getMethod_builtin (v := .ref M) (T := "re.Match") ?gT pa_match sl_group ty_group ?gd ?_
  case gT => exact ⟨mObj S tS lim li T, (N3 _ hm).1, rfl⟩
  case gd => intro a ea; cases ea; exact ⟨mObj S tS lim li T, (N3 _ hm).1, rfl⟩
  try dsimp only
  iterate 4 (walk_at "ONE")
  k_here
  refine mgroup (by k_asm) (by k_asm) (by k_asm) (by k_asm) hm hT hne hS ?_
  intro x t5 h5 tk5 hx5 F5 N5
  try dsimp only
  iterate 10 (walk_at "ONE")
  rename Fr _ _ _ _ => F8
  rename (hd.heap_39 w.params).In _ => X8
  first | refine ⟨X8.keeps F8.keep, ?_⟩ | skip
  k_here
  refine' use_call (unq x t5 c hc (by rw [hx5]; exact hx)) ?uB ?uF ?uX ?uN ?uT ?uK ?ud ?uu ?up
  case uB => k_asm
  case uF => k_asm
  case uX => k_asm
  case uN => k_asm
  case uT => k_asm
  case uK => first | exact rfl | assumption
  case ud => ktr_room
  case uu => ktr_units
  intro y ty hy tky hyc Fy Ny
  try dsimp only
  iterate 2 (walk_at "ONE")
  refine hret _ _ _ _ hyc ?hF ?hN
  case hF => k_asm
  case hN => k_asm
end
-- Sub3
section
section
variable {w : World} {p : Program} {loose : List Str} {mean : ExcName → Option Value} {mg mb : Str → Option Value} {A : Around} {E : Value → Shared → Prop} {s : Shared} {h₀ : Heap} {L : Addr} {m : Str → Option Value} {news : List (Addr × Obj)}
theorem quiet0 {α : Type} {t : Sem α} {v : α} {cs : List Cm} {n : Nat} {Q : α → Shared → Prop} (F : Fr h₀ L s.heap m) (X : (hd.heap_39 w.params).In h₀) (N : News h₀ L s.heap news) (T : Top p loose mean mg mb h₀)
    (e : ∀ sl tk N, (fd ⟨w, sl, N, 0, tk, .none, none, #[]⟩ n cs (nst [] 0 tk) t).1.log.map (·.1) = (fd ⟨w, sl, N, 0, tk, .none, none, #[]⟩ n cs (nst [] 0 tk) t).1.log.map (·.2) ∧ (fd ⟨w, sl, N, 0, tk, .none, none, #[]⟩ n cs (nst [] 0 tk) t).2 = .pure v ∧ nx (fd ⟨w, sl, N, 0, tk, .none, none, #[]⟩ n cs (nst [] 0 tk) t) = nst [] 0 tk)
    (h : ∀ h' tk', Fr h₀ L h' m → News h₀ L h' news → Q v { s with heap := h', toks := tk' }) : wpAny (model PySem.Challenge.rw_il0164_01.row.prog w) A t Q E s := by
  obtain ⟨sl, X4⟩ := x4_of X T
  have S0 := Sat.led (own := []) F N (fun p hp => nomatch hp) (by simp)
  obtain ⟨e1, e2, e3⟩ := e sl s.toks s.heap.objs.size
  refine leaf (y := ⟨w, sl, s.heap.objs.size, 0, s.toks, .none, none, #[]⟩) X4 n cs (nst [] 0 s.toks) _ v S0 rfl e3.symm (fun h1 tk1 S1 ht1 => ?_) e1 e2
  have S2 : Sat s.heap.objs.size s.heap h₀ 0 [] h1 := S1
  have keep := Sat.same (own := []) (fun p hp => nomatch hp) S2
  exact h h1 tk1 (F.kept keep) (N.grown keep)
theorem rt_73 {S : Str} {tS : Tok} {Q : Builtin.Re.ReTarget → Shared → Prop} (F : Fr h₀ L s.heap m) (X : (hd.heap_39 w.params).In h₀) (N : News h₀ L s.heap news) (T : Top p loose mean mg mb h₀)
    (h : ∀ h' tk', Fr h₀ L h' m → News h₀ L h' news → Q ⟨.ref 73, .str S tS, reCode, S.cps, 0, 0, 0, S.cps.size⟩ { s with heap := h', toks := tk' }) : wpAny (model PySem.Challenge.rw_il0164_01.row.prog w) A (Builtin.Re.reWholeTarget (.ref 73) (.str S tS)) Q E s :=
  quiet0 (n := 99) (cs := [.k 73, .k 72, .k 72]) F X N T (fun sl tk N => ⟨by kernel_rfl, by kernel_rfl, by kernel_rfl⟩) h
theorem forIn_still {M : Model} {l : List Nat} {f : Nat → PUnit → Sem (ForInStep PUnit)} {Q : PUnit → Shared → Prop} (hf : ∀ i (Q : ForInStep PUnit → Shared → Prop), Q (.yield ⟨⟩) s → wpAny M A (f i ⟨⟩) Q E s) (h : Q ⟨⟩ s) : wpAny M A (forIn l PUnit.unit f) Q E s := by
  induction l with
  | nil => exact wpAny_pure h
  | cons i l ih =>
    rw [List.forIn_cons]
    exact wpAny_bind (hf i _ ih)
theorem run_some {M : Model} {k : Nat} {m0 m1 : PySem.Sre.M} {Q : Option PySem.Sre.M → Shared → Prop} (hm : iter k m0 = m1) (ho : m1.outcome = some .matched) (hk : k < 2 ^ 60) (h : Q (some m1) s) : wpAny M A (Builtin.Re.reRunToEnd m0) Q E s := by
  unfold Builtin.Re.reRunToEnd
  refine wpAny_bind (wp_drive k _ m0 (by rw [hm, ho]; rfl) (by omega) ?_)
  rw [hm]
  refine wpAny_bind (forIn_still (fun i Q hq => ?_) ?_)
  · by_cases hi : m1.seen.has i = true
    · rw [if_pos hi]; exact wpAny_bind (wpAny_rule (wpAny_pure hq))
    · rw [if_neg hi]; exact wpAny_pure hq
  · rw [ho]; exact wpAny_pure h
theorem run_none {M : Model} {k : Nat} {m0 m1 : PySem.Sre.M} {Q : Option PySem.Sre.M → Shared → Prop} (hm : iter k m0 = m1) (ho : m1.outcome = some .failed) (hk : k < 2 ^ 60) (h : Q none s) : wpAny M A (Builtin.Re.reRunToEnd m0) Q E s := by
  unfold Builtin.Re.reRunToEnd
  refine wpAny_bind (wp_drive k _ m0 (by rw [hm, ho]; rfl) (by omega) ?_)
  rw [hm]
  refine wpAny_bind (forIn_still (fun i Q hq => ?_) ?_)
  · by_cases hi : m1.seen.has i = true
    · rw [if_pos hi]; exact wpAny_bind (wpAny_rule (wpAny_pure hq))
    · rw [if_neg hi]; exact wpAny_pure hq
  · rw [ho]; exact wpAny_pure h
end
section
variable {w : World} {p : Program} {loose : List Str} {mean : ExcName → Option Value} {mg mb : Str → Option Value} {A : Around} {E : Value → Shared → Prop} {s : Shared} {h₀ : Heap} {L : Addr} {m : Str → Option Value} {news : List (Addr × Obj)}
theorem new_match {prog : Program} {text : Array Nat} {lim q : Nat} {mm : PySem.Sre.M} {S : Str} {tS : Tok} {Q : Value → Shared → Prop} (hf : Found text q mm) (F : Fr h₀ L s.heap m) (N : News h₀ L s.heap news)
    (h : ∀ (M T : Addr) h', @Ne Nat M T → (∀ p ∈ news, @LT.lt Nat _ p.1 T) → Fr h₀ L h' m → News h₀ L h' ((M, mObj S tS lim (-1) T) :: (T, tOb q (q + 3 : Nat)) :: news) → Q (.ref M) { s with heap := h' }) :
    wpAny (model prog w) A (Builtin.Re.reNewMatch (.ref 73) (.str S tS) 0 0 lim mm) Q E s := by
  unfold Builtin.Re.reNewMatch
  rw [hf.start, hf.handed, hf.lastindex]
  refine wpAny_bind ?_
  refine wpAny_newTuple ?_ ?_
  · refine wpAny_newObj_type ?_ ?_
    · have F1 := F.push (tOb q (q + 3 : Nat))
      have N1 := News.push F N (tOb q (q + 3 : Nat)) rfl
      have N2 := News.push F1 N1 (mObj S tS lim (-1) s.heap.objs.size) rfl
      exact h _ s.heap.objs.size _ (by rw [size_push']; exact Nat.ne_of_gt (Nat.lt_succ_self _)) (fun p hp => Heap.lt_size (N p hp).1) (F1.push _) N2
    · exact Nat.le_of_ble_eq_true rfl
  · exact Nat.le_of_ble_eq_true rfl
end
def ecps (c : Nat) : List Nat := if c = 32 then [32] else qcps c
def erow (l : List Nat) : List Nat := l.flatMap ecps
def plainC (c : Nat) : Bool := c == 32 || qsafe c
theorem ecps_plain {c : Nat} (h : plainC c = true) : ecps c = [c] ∧ c ≠ 61 := by
  unfold plainC at h
  simp only [Bool.or_eq_true, beq_iff_eq] at h
  rcases h with rfl | h
  · exact ⟨rfl, by decide⟩
  · have h32 : c ≠ 32 := by rintro rfl; revert h; decide
    refine ⟨by unfold ecps qcps; rw [if_neg h32, if_pos h], ?_⟩
    rintro rfl; revert h; decide
theorem ecps_hex {c : Nat} (h : plainC c = false) : ecps c = [61, qhex (c / 16), qhex (c % 16)] := by
  unfold plainC at h
  simp only [Bool.or_eq_false_iff, beq_eq_false_iff_ne, ne_eq] at h
  unfold ecps qcps
  rw [if_neg h.1, if_neg (by rw [h.2]; decide), if_neg h.1]
theorem erow_plain : ∀ {l : List Nat}, (∀ c ∈ l, plainC c = true) → erow l = l
  | [], _ => rfl
  | c :: l, h => by
    show ecps c ++ erow l = _
    rw [(ecps_plain (h c (.head _))).1, erow_plain fun c hc => h c (.tail _ hc)]; rfl
theorem split_plain : ∀ l : List Nat, (∀ c ∈ l, plainC c = true) ∨ ∃ l1 c l2, l = l1 ++ c :: l2 ∧ (∀ c ∈ l1, plainC c = true) ∧ plainC c = false
  | [] => .inl fun _ h => nomatch h
  | c :: l => by
    cases hc : plainC c with
    | false => exact .inr ⟨[], c, l, rfl, (fun _ h => nomatch h), hc⟩
    | true =>
      rcases split_plain l with h | ⟨l1, d, l2, rfl, h1, h2⟩
      · exact .inl fun d hd => by
          rcases List.mem_cons.mp hd with rfl | hd
          · exact hc
          · exact h d hd
      · exact .inr ⟨c :: l1, d, l2, rfl, fun d hd => by
          rcases List.mem_cons.mp hd with rfl | hd
          · exact hc
          · exact h1 d hd, h2⟩
theorem hexc_q : ∀ d, d < 16 → hexc (qhex d) := by
  intro d h
  unfold hexc qhex
  split <;> omega
theorem getD_app {a b : List Nat} {i : Nat} (h : i < a.length) : (a ++ b).getD i 0 = a.getD i 0 := by
  rw [List.getD_eq_getElem?_getD, List.getD_eq_getElem?_getD, List.getElem?_append_left h]
theorem getD_mid {tx : Array Nat} {a b : List Nat} {i : Nat} (h : tx.toList = a ++ b) : tx.getD (a.length + i) 0 = b.getD i 0 := by
  rw [Array.getD_eq_getD_getElem?, ← Array.getElem?_toList, h, List.getElem?_append_right (by omega), List.getD_eq_getElem?_getD, Nat.add_sub_cancel_left]
theorem extract_mid {tx : Array Nat} {a b c : List Nat} (h : tx.toList = a ++ (b ++ c)) : (tx.extract a.length (a.length + b.length)).toList = b := by
  rw [Array.toList_extract, h]
  simp
theorem search_hit {tx : Array Nat} {pre l1 l2 : List Nat} {c : Nat} (h : tx.toList = pre ++ erow (l1 ++ c :: l2)) (h1 : ∀ c ∈ l1, plainC c = true) (hc : plainC c = false) (hb : c < 256) :
    ∃ k m1, iter k (PySem.Sre.forSearch reCode tx 0 pre.length tx.size false) = m1 ∧ Found tx (pre.length + l1.length) m1 ∧ k ≤ 2 * l1.length + 6 := by
  have e : erow (l1 ++ c :: l2) = l1 ++ ([61, qhex (c / 16), qhex (c % 16)] ++ erow l2) := by
    show (l1 ++ c :: l2).flatMap ecps = _
    rw [List.flatMap_append]
    show erow l1 ++ (ecps c ++ erow l2) = _
    rw [erow_plain h1, ecps_hex hc]
  rw [e] at h
  have hsz : tx.size = pre.length + (l1.length + (3 + (erow l2).length)) := by
    rw [← Array.length_toList, h]; simp only [List.length_append, List.length_cons, List.length_nil] <;> omega
  obtain ⟨seen, hs⟩ := search_is (text := tx) (s := pre.length) (lim := tx.size) (by omega)
  have h' : tx.toList = (pre ++ l1) ++ ([61, qhex (c / 16), qhex (c % 16)] ++ erow l2) := by rw [h, List.append_assoc]
  have g : ∀ i, i < 3 → tx.getD (pre.length + l1.length + i) 0 = [61, qhex (c / 16), qhex (c % 16)].getD i 0 := fun i hi => by
    have := getD_mid (i := i) h'
    rw [List.length_append] at this
    rw [this, getD_app (by simpa using hi)]
  refine ⟨2 * l1.length + 6, _, rfl, ?_, Nat.le_refl _⟩
  rw [hs]
  refine search_found (by omega) (g 0 (by decide)) ?_ ?_ l1.length pre.length true seen rfl fun i ha hb' => ?_
  · rw [show pre.length + l1.length + 1 = pre.length + l1.length + 1 from rfl, g 1 (by decide)]; exact hexc_q _ (by omega)
  · rw [g 2 (by decide)]; exact hexc_q _ (by omega)
  · obtain ⟨j, rfl⟩ : ∃ j, i = pre.length + j := ⟨i - pre.length, by omega⟩
    rw [getD_mid h]
    have hj : j < l1.length := by omega
    rw [getD_app hj, List.getD_eq_getElem?_getD, List.getElem?_eq_getElem hj]
    exact (ecps_plain (h1 _ (List.getElem_mem hj))).2
theorem search_miss {tx : Array Nat} {pre l : List Nat} (h : tx.toList = pre ++ erow l) (h1 : ∀ c ∈ l, plainC c = true) :
    ∃ k m1, iter k (PySem.Sre.forSearch reCode tx 0 pre.length tx.size false) = m1 ∧ m1.outcome = some .failed ∧ k ≤ 2 * l.length + 3 := by
  rw [erow_plain h1] at h
  have hsz : tx.size = pre.length + l.length := by rw [← Array.length_toList, h, List.length_append]
  by_cases h3 : pre.length + 3 ≤ tx.size
  · obtain ⟨seen, hs⟩ := search_is h3
    refine ⟨2 * l.length + 3, _, rfl, ?_, Nat.le_refl _⟩
    rw [hs]
    refine search_none l.length pre.length true seen hsz.symm fun i ha hb => ?_
    obtain ⟨j, rfl⟩ : ∃ j, i = pre.length + j := ⟨i - pre.length, by omega⟩
    rw [getD_mid h]
    have hj : j < l.length := by omega
    rw [List.getD_eq_getElem?_getD, List.getElem?_eq_getElem hj]
    exact (ecps_plain (h1 _ (List.getElem_mem hj))).2
  · obtain ⟨m0, e0, ho⟩ := search_short (text := tx) (s := pre.length) (lim := tx.size) (by omega) (by omega)
    exact ⟨1, _, rfl, by rw [e0]; exact ho, by omega⟩
end
-- Sub6a
section
section
variable {w : World} {p : Program} {loose : List Str} {mean : ExcName → Option Value} {mg mb : Str → Option Value} {A : Around} {E : Value → Shared → Prop} {s : Shared} {h₀ : Heap} {L D : Addr} {m : Str → Option Value} {news : List (Addr × Obj)} {ps : List (Str × Tok)} {c : Nat}
theorem push_piece {M : Model} {x : Str} {t : Tok} {Q : Unit → Shared → Prop} (F : Fr h₀ L s.heap m) (N : News h₀ L s.heap ((D, PySem.W.listOf (ps.map strV).toArray c) :: news)) (hnD : ∀ p ∈ news, p.1 ≠ D) (hz : ps.length ≤ 1000000)
    (h : ∀ h' c', Fr h₀ L h' m → News h₀ L h' ((D, PySem.W.listOf ((ps ++ [(x, t)]).map strV).toArray c') :: news) → Q () { s with heap := h' }) : wpAny M A (updateSeq D fun xs => xs.push (.str x t)) Q E s := by
  have nk := N _ (.head _)
  have s1 := Heap.SameBut.update s.heap D (Obj.mapSeq (·.push (.str x t)))
  obtain ⟨c2, hc2⟩ : ∃ c2, (s.heap.update D (Obj.mapSeq (·.push (.str x t)))).get? D = some (seqObj "list" ((ps.map strV).toArray.push (.str x t)) c2) := ⟨_, get?_update_seq nk.1 (·.push (.str x t))⟩
  have ea : (ps.map strV).toArray.push (.str x t) = ((ps ++ [(x, t)]).map strV).toArray := by simp
  rw [ea] at hc2
  refine wpAny_updateSeq nk.1 rfl (h _ c2 (ksk_fr F s1 nk.2.1 nk.2.2) fun p hp => ?_) (by rw [List.size_toArray, List.length_map, sizeLine_eq]; omega) (Nat.le_trans (Nat.le_of_eq (Array.size_push ..)) (by rw [List.size_toArray, List.length_map, sizeLine_eq]; omega))
  rcases List.mem_cons.mp hp with rfl | hp
  · exact ⟨hc2, nk.2⟩
  · exact ⟨(s1.2 p.1 (hnD p hp)).trans (N p (.tail _ hp)).1, (N p (.tail _ hp)).2⟩
theorem seq_items {vs : Array Value} {Q : Option (Array Value) → Shared → Prop} (F : Fr h₀ L s.heap m) (X : (hd.heap_39 w.params).In h₀) (N : News h₀ L s.heap ((D, PySem.W.listOf vs c) :: news)) (T : Top p loose mean mg mb h₀)
    (h : ∀ h' tk', Fr h₀ L h' m → News h₀ L h' ((D, PySem.W.listOf vs c) :: news) → Q (some vs) { s with heap := h', toks := tk' }) : wpAny (model PySem.Challenge.rw_il0164_01.row.prog w) A (seqItems? (.ref D)) Q E s := by
  obtain ⟨sl, X4⟩ := x4_of X T
  have hin : ∀ p ∈ [(D, PySem.W.listOf vs c)], p ∈ (D, PySem.W.listOf vs c) :: news := fun p hp => by rw [List.mem_singleton.mp hp]; exact .head _
  have S0 := Sat.led F N hin (by simp)
  refine leaf (y := ⟨w, sl, s.heap.objs.size, 0, s.toks, .none, none, #[]⟩) X4 99 [.o 0, .o 0, .o 0] (nst [(D, PySem.W.listOf vs c)] 0 s.toks) _ (some vs) S0 rfl rfl (fun h1 tk1 S1 ht1 => ?_) (by kernel_rfl) (by kernel_rfl)
  have S2 : Sat s.heap.objs.size s.heap h₀ 0 [(D, PySem.W.listOf vs c)] h1 := S1.cast (by kernel_rfl) (by kernel_rfl)
  have keep := Sat.same (fun p hp => (N p (hin p hp)).1) S2
  exact h h1 tk1 (F.kept keep) (N.grown keep)
theorem slice_0 {M : Model} {tx : Array Nat} {i j : Nat} {Q : Value → Shared → Prop} (hz : tx.size ≤ 100000) (h : ∀ x t k, x.cps = tx.extract i j → Q (.str x t) { s with toks := k }) : wpAny M A (Builtin.Re.reSlice tx 0 i j) Q E s := by
  unfold Builtin.Re.reSlice
  refine wpAny_ite_true rfl (wpAny_mkStr (h _ _ _ rfl) ?_)
  show (tx.extract _ _).size ≤ _
  rw [sizeLine_eq]
  simp only [Array.size_extract]
  omega
end
theorem join_e : ∀ ys : List Str, (Str.join ⟨#[]⟩ ys).cps.toList = ys.flatMap (fun y => y.cps.toList)
  | [] => rfl
  | [y] => by
    show y.cps.toList = _
    simp
  | y :: z :: r => by
    have ih := join_e (z :: r)
    rw [Str.join, Str.cps_append, Str.cps_append, Array.toList_append, Array.toList_append, ih]
    simp
    intro h; cases h
theorem glued_e (ys : List Str) : (Txt.join ⟨#[]⟩ ys).cps.toList = ys.flatMap (fun y => y.cps.toList) := by
  unfold Txt.join
  rw [StrLaws.glued_eq_join]
  exact join_e ys
theorem strs_map : ∀ ps : List (Str × Tok), StrsAre (ps.map strV) (ps.map (·.1))
  | [] => .nil
  | p :: ps => .cons p.1 p.2 (strs_map ps)
abbrev subArgs (S : Str) (tS : Tok) (k p : Nat) (D : Addr) : Args := ⟨[.ref 73, .str S tS, .ref 116, rawInt 1, rawInt 0, rawInt k, rawInt p, rawInt p, .bool false, .ref D, .bool false], []⟩
theorem under_sub {dp un : Nat} {gd : Option (List Code)} {cn : Str} {cs : Scope} {L a : Addr} {ccd : Value} {cl : List (Str × Addr)} {outer : List Env} {S : Str} {tS : Tok} {k p : Nat} {D : Addr} : (ktrTop dp un gd cn cs L a ccd cl outer).under (.builtin "re.Pattern.sub.loop" (subArgs S tS k p D)) = ktrTop dp (un + 1) (pushGuards (Code.builtin "re.Pattern.sub.loop" (subArgs S tS k p D)).guards gd) cn cs L a ccd cl outer := by
  have e1 : (Code.builtin "re.Pattern.sub.loop" (subArgs S tS k p D)).weight = 0 := by kernel_rfl
  have e2 : (Code.builtin "re.Pattern.sub.loop" (subArgs S tS k p D)).cUnits = 1 := by kernel_rfl
  have e3 : (Code.builtin "re.Pattern.sub.loop" (subArgs S tS k p D)).envs = [] := by kernel_rfl
  unfold Around.under
  rw [e1, e2, e3]
  rfl
section
variable {w : World} {p : Program} {loose : List Str} {mean : ExcName → Option Value} {mg mb : Str → Option Value} {dp un : Nat} {gd : Option (List Code)} {cn : Str} {cs : Scope} {a : Addr} {ccd : Value} {cl : List (Str × Addr)} {outer : List Env} {A₀ : Around} {base h₀ : Heap} {L : Addr} {m : Str → Option Value} {news : List (Addr × Obj)} {R : Result → Shared → Prop}
theorem sub_last (D : Addr) (S : Str) (tS : Tok) (X : (hd.heap_39 w.params).In h₀) (T : Top p loose mean mg mb h₀) (hS : S.length ≤ 100000) (hnD : ∀ p ∈ news, p.1 ≠ D)
    (l pre : List Nat) (ps : List (Str × Tok)) (c k : Nat) (s : Shared) (htx : S.cps.toList = pre ++ erow l) (hpl1 : ∀ c ∈ l, plainC c = true) (hpl : ps.length ≤ 2 * pre.length) (hpc : (ps.flatMap (fun q => q.1.cps.toList)).length ≤ pre.length) (F : Fr h₀ L s.heap m) (N : News h₀ L s.heap ((D, PySem.W.listOf (ps.map strV).toArray c) :: news))
    (hR : ∀ y ty h' tk', y.cps.toList = ps.flatMap (fun q => q.1.cps.toList) ++ l → Fr h₀ L h' m → News h₀ L h' news → R (.ok (.ret (.str y ty))) { s with heap := h', toks := tk' }) :
    codeAny (model PySem.Challenge.rw_il0164_01.row.prog w) (ktrTop dp un gd cn cs L a ccd cl outer) (.builtin "re.Pattern.sub.loop" (subArgs S tS k pre.length D)) R s := by
  obtain ⟨kk, m1, hm1, ho1, hkk⟩ := search_miss htx hpl1
  rw [erow_plain hpl1] at htx
  have hsz : S.cps.size = pre.length + l.length := by rw [← Array.length_toList, htx, List.length_append]
  have hS' : S.cps.size ≤ 100000 := hS
  refine go_e (b := PySem.Builtin.«re.Pattern.sub.loop») (entryFor_of_tree (by kernel_rfl)) ?_
  rw [under_sub]
  unfold Builtin.«re.Pattern.sub.loop»
  show wpAny _ _ (Builtin.Re.reWholeTarget (.ref 73) (.str S tS) >>= _) _ _ _
  refine wpAny_bind (rt_73 F X N T fun h1 tk1 F1 N1 => ?_)
  refine wpAny_ite_false (by rfl) ?_
  dsimp only
  refine wpAny_bind (wpAny_ite_false (by rfl) ?_)
  unfold Builtin.Re.reNextFound
  have hpn : ((pre.length : Int)).toNat = pre.length := Int.toNat_natCast _
  dsimp only
  rw [hpn]
  refine run_none hm1 ho1 (by omega) ?_
  dsimp only
  by_cases hlt : pre.length < S.cps.size
  case pos =>
    rw [if_pos hlt]
    refine wpAny_bind (slice_0 hS' fun x t k2 hx => ?_)
    refine wpAny_bind (push_piece F1 N1 hnD (by omega) fun h2 c2 F2 N2 => ?_)
    have e2 : (ps ++ [(x, t)]).flatMap (fun q => q.1.cps.toList) = ps.flatMap (fun q => q.1.cps.toList) ++ l := by
      rw [List.flatMap_append]
      simp only [List.flatMap_cons, List.flatMap_nil, List.append_nil]
      rw [hx, hsz, extract_mid (c := []) (by rw [htx, List.append_nil])]
    have hne : (ps ++ [(x, t)]) ≠ [] := by simp
    have z2 : (ps ++ [(x, t)]).length ≤ 300000 := by rw [List.length_append]; simp; omega
    generalize ps ++ [(x, t)] = ps2 at N2 e2 hne z2
    refine wpAny_bind (slice_0 hS' fun j tj k3 hj => ?_)
    refine wpAny_bind (seq_items F2 X N2 T fun h3 tk3 F3 N3 => ?_)
    have hj2 : j = ⟨#[]⟩ := by
      cases j with | mk cps => simp only at hj; rw [hj]; simp
    subst hj2
    refine wpAny_ite_false ?_ ?_
    · cases ps2 with
      | nil => exact absurd rfl hne
      | cons a b => rfl
    refine wpAny_bind (join_list (ys := ps2.map (·.1)) ⟨_, (N3 _ (.head _)).1, rfl, _, rfl⟩ (by simpa using strs_map ps2) ?_ ?_)
    · rw [List.length_map]
      have : ((ps2.map (·.1)).map (·.length)).sum = (ps2.flatMap (fun q => q.1.cps.toList)).length := by
        rw [List.length_flatMap, List.map_map]
        congr 1
      rw [this, e2, List.length_append]
      show _ + _ * 0 ≤ _
      omega
    · intro ty k4
      refine wpAny_ite_false (by rfl) (wpAny_pure ?_)
      refine hR _ ty h3 k4 ?_ F3 fun p hp => N3 p (.tail _ hp)
      rw [glued_e, ← e2]
      simp only [List.flatMap_map]
  case neg =>
    rw [if_neg hlt]
    have hl0 : l = [] := List.eq_nil_of_length_eq_zero (by omega)
    subst hl0
    have z2 : ps.length ≤ 300000 := by omega
    refine wpAny_bind (slice_0 hS' fun j tj k3 hj => ?_)
    refine wpAny_bind (seq_items F1 X N1 T fun h3 tk3 F3 N3 => ?_)
    have hj2 : j = ⟨#[]⟩ := by
      cases j with | mk cps => simp only at hj; rw [hj]; simp
    subst hj2
    cases ps with
    | nil =>
      refine wpAny_ite_true (by rfl) (wpAny_bind (wpAny_pure ?_))
      refine wpAny_ite_false (by rfl) (wpAny_pure ?_)
      exact hR _ tj h3 tk3 rfl F3 fun p hp => N3 p (.tail _ hp)
    | cons q1 qs =>
      refine wpAny_ite_false (by rfl) ?_
      refine wpAny_bind (join_list (ys := (q1 :: qs).map (·.1)) ⟨_, (N3 _ (.head _)).1, rfl, _, rfl⟩ (by simpa using strs_map (q1 :: qs)) ?_ ?_)
      · rw [List.length_map]
        have : (((q1 :: qs).map (·.1)).map (·.length)).sum = ((q1 :: qs).flatMap (fun q => q.1.cps.toList)).length := by
          rw [List.length_flatMap, List.map_map]
          congr 1
        rw [this]
        show _ + _ * 0 ≤ _
        omega
      · intro ty k4
        refine wpAny_ite_false (by rfl) (wpAny_pure ?_)
        refine hR _ ty h3 k4 ?_ F3 fun p hp => N3 p (.tail _ hp)
        rw [glued_e, List.append_nil]
        simp only [List.flatMap_map]
end
end
-- Subl
section
section
variable {w : World} {p : Program} {loose : List Str} {mean : ExcName → Option Value} {mg mb : Str → Option Value} {dp un : Nat} {gd : Option (List Code)} {cn : Str} {cs : Scope} {a : Addr} {ccd : Value} {cl : List (Str × Addr)} {outer : List Env} {A₀ : Around} {base h₀ : Heap} {L : Addr} {m : Str → Option Value} {news : List (Addr × Obj)} {R : Result → Shared → Prop}
theorem sub_loop (D : Addr) (S : Str) (tS : Tok) (B : Below A₀ base outer h₀) (X : (hd.heap_39 w.params).In h₀) (T : Top p loose mean mg mb h₀) (hk : cs.kind = .function) (hd : dp + 20 < recursionLimit) (hu : un + 100 < cLine) (hS : S.length ≤ 100000) (hnD : ∀ p ∈ news, p.1 ≠ D) :
    ∀ n (l pre : List Nat) (ps : List (Str × Tok)) (c k : Nat) (s : Shared), l.length ≤ n → S.cps.toList = pre ++ erow l → (∀ c ∈ l, c < 256) → ps.length ≤ 2 * pre.length → (ps.flatMap (fun q => q.1.cps.toList)).length ≤ pre.length → Fr h₀ L s.heap m → News h₀ L s.heap ((D, PySem.W.listOf (ps.map strV).toArray c) :: news) →
      (∀ y ty h' tk', y.cps.toList = ps.flatMap (fun q => q.1.cps.toList) ++ l → Fr h₀ L h' m → News h₀ L h' news → R (.ok (.ret (.str y ty))) { s with heap := h', toks := tk' }) →
      codeAny (model PySem.Challenge.rw_il0164_01.row.prog w) (ktrTop dp un gd cn cs L a ccd cl outer) (.builtin "re.Pattern.sub.loop" (subArgs S tS k pre.length D)) R s := by
  intro n
  induction n with
  | zero =>
    intro l pre ps c k s hl htx hb hpl hpc F N hR
    obtain rfl : l = [] := List.eq_nil_of_length_eq_zero (by omega)
    exact sub_last D S tS X T hS hnD [] pre ps c k s htx (fun _ h => (nomatch h)) hpl hpc F N hR
  | succ n ih =>
    intro l pre ps c k s hl htx hb hpl hpc F N hR
    rcases split_plain l with hpl1 | ⟨l1, c1, l2, rfl, hpl1, hc1⟩
    case inl => exact sub_last D S tS X T hS hnD l pre ps c k s htx hpl1 hpl hpc F N hR
    case inr =>
      have hc256 : c1 < 256 := hb c1 (by simp)
      obtain ⟨kk, m1, hm1, ho1, hkk⟩ := search_hit htx hpl1 hc1 hc256
      have e : erow (l1 ++ c1 :: l2) = l1 ++ ([61, qhex (c1 / 16), qhex (c1 % 16)] ++ erow l2) := by
        show (l1 ++ c1 :: l2).flatMap ecps = _
        rw [List.flatMap_append]
        show erow l1 ++ (ecps c1 ++ erow l2) = _
        rw [erow_plain hpl1, ecps_hex hc1]
      rw [e] at htx
      have hsz : S.cps.size = pre.length + (l1.length + (3 + (erow l2).length)) := by
        rw [← Array.length_toList, htx]; simp only [List.length_append, List.length_cons, List.length_nil] <;> omega
      have hS' : S.cps.size ≤ 100000 := hS
      refine go_e (b := PySem.Builtin.«re.Pattern.sub.loop») (entryFor_of_tree (by kernel_rfl)) ?_
      rw [under_sub]
      unfold Builtin.«re.Pattern.sub.loop»
      show wpAny _ _ (Builtin.Re.reWholeTarget (.ref 73) (.str S tS) >>= _) _ _ _
      refine wpAny_bind (rt_73 F X N T fun h1 tk1 F1 N1 => ?_)
      refine wpAny_ite_false (by rfl) ?_
      dsimp only
      refine wpAny_bind (wpAny_ite_false (by rfl) ?_)
      unfold Builtin.Re.reNextFound
      have hpn : ((pre.length : Int)).toNat = pre.length := Int.toNat_natCast _
      dsimp only
      rw [hpn]
      refine run_some hm1 ho1.out (by omega) ?_
      dsimp only
      have hmb : (m1.handed == m1.start) = false := by rw [ho1.start, ho1.handed]; simp
      have hq : (pre ++ (l1 ++ [61, qhex (c1 / 16), qhex (c1 % 16)])).length = m1.handed := by
        rw [ho1.handed]; simp only [List.length_append, List.length_cons, List.length_nil] <;> omega
      rw [hmb, ← hq, ho1.start]
      by_cases hl1 : pre.length < pre.length + l1.length
      · rw [if_pos hl1]
        refine wpAny_bind (slice_0 hS' fun x t k2 hx => ?_)
        refine wpAny_bind (push_piece F1 N1 hnD (by omega) fun h2 c2 F2 N2 => ?_)
        obtain ⟨ps2, hps2⟩ : ∃ q, q = ps ++ [(x, t)] := ⟨_, rfl⟩
        rw [← hps2] at N2
        have e2 : ps2.flatMap (fun q => q.1.cps.toList) = ps.flatMap (fun q => q.1.cps.toList) ++ l1 := by
          rw [hps2, List.flatMap_append]
          simp only [List.flatMap_cons, List.flatMap_nil, List.append_nil]
          rw [hx, extract_mid htx]
        have z2 : ps2.length ≤ ps.length + 1 := by rw [hps2, List.length_append]; simp
        clear hps2
        refine wpAny_ite_false (by rfl) ?_
        refine wpAny_bind (new_match ho1 F2 N2 fun M Tt h3 hne hlt F3 N3 => ?_)
        refine wpAny_bind (wpAny_holding (wpAny_ite_true (by rfl) ?_))
        have hxm : (S.cps.extract (pre.length + l1.length) (pre.length + l1.length + 3)).toList = [61, qhex (c1 / 16), qhex (c1 % 16)] := by
          have := extract_mid (tx := S.cps) (a := pre ++ l1) (b := [61, qhex (c1 / 16), qhex (c1 % 16)]) (c := erow l2) (by rw [htx, List.append_assoc])
          rw [List.length_append] at this
          exact this
        refine use_call (unqm M Tt S tS S.cps.size (-1) (pre.length + l1.length) (pre.length + l1.length + 3) c1 hc256 hxm hS hne) B F3 X N3 T hk (by omega) (by omega) ⟨.head _, .tail _ (.head _), fun y ty h4 tk4 hy F4 N4 => ?_⟩
        dsimp only
        refine wpAny_ite_true (by rfl) ?_
        have N4' : News h₀ L h4 ((D, PySem.W.listOf (ps2.map strV).toArray c2) :: news) := fun p hp => N4 p (.tail _ (.tail _ hp))
        refine wpAny_bind (push_piece F4 N4' hnD (by omega) fun h5 c5 F5 N5 => ?_)
        refine wpAny_pure ⟨by kernel_rfl, ?_⟩
        refine ih l2 (pre ++ (l1 ++ [61, qhex (c1 / 16), qhex (c1 % 16)])) (ps2 ++ [(y, ty)]) c5 (k + 1) _ ?_ ?_ ?_ ?_ ?_ F5 N5 ?_
        · simp only [List.length_append, List.length_cons] at hl; omega
        · rw [htx]; simp only [List.append_assoc]
        · exact fun d hd => hb d (by simp [hd])
        · simp only [List.length_append, List.length_cons, List.length_nil]; omega
        · rw [List.flatMap_append, e2]
          simp only [List.flatMap_cons, List.flatMap_nil, List.append_nil, List.length_append, List.length_cons, List.length_nil, hy]
          omega
        · intro y2 ty2 h6 tk6 hy2 F6 N6
          refine hR y2 ty2 h6 tk6 ?_ F6 N6
          rw [hy2, List.flatMap_append, e2]
          simp only [List.flatMap_cons, List.flatMap_nil, List.append_nil, hy, List.append_assoc, List.cons_append, List.nil_append]
      · rw [if_neg hl1]
        have hl1n : l1 = [] := List.eq_nil_of_length_eq_zero (by omega)
        obtain ⟨ps2, hps2⟩ : ∃ q, q = ps := ⟨_, rfl⟩
        obtain ⟨c2, hc2⟩ : ∃ q, q = c := ⟨_, rfl⟩
        rw [← hps2, ← hc2] at N1
        have e2 : ps2.flatMap (fun q => q.1.cps.toList) = ps.flatMap (fun q => q.1.cps.toList) ++ l1 := by rw [hps2, hl1n, List.append_nil]
        have z2 : ps2.length ≤ ps.length + 1 := by rw [hps2]; omega
        have F2 := F1
        have N2 := N1
        clear hps2
        refine wpAny_ite_false (by rfl) ?_
        refine wpAny_bind (new_match ho1 F2 N2 fun M Tt h3 hne hlt F3 N3 => ?_)
        refine wpAny_bind (wpAny_holding (wpAny_ite_true (by rfl) ?_))
        have hxm : (S.cps.extract (pre.length + l1.length) (pre.length + l1.length + 3)).toList = [61, qhex (c1 / 16), qhex (c1 % 16)] := by
          have := extract_mid (tx := S.cps) (a := pre ++ l1) (b := [61, qhex (c1 / 16), qhex (c1 % 16)]) (c := erow l2) (by rw [htx, List.append_assoc])
          rw [List.length_append] at this
          exact this
        refine use_call (unqm M Tt S tS S.cps.size (-1) (pre.length + l1.length) (pre.length + l1.length + 3) c1 hc256 hxm hS hne) B F3 X N3 T hk (by omega) (by omega) ⟨.head _, .tail _ (.head _), fun y ty h4 tk4 hy F4 N4 => ?_⟩
        dsimp only
        refine wpAny_ite_true (by rfl) ?_
        have N4' : News h₀ L h4 ((D, PySem.W.listOf (ps2.map strV).toArray c2) :: news) := fun p hp => N4 p (.tail _ (.tail _ hp))
        refine wpAny_bind (push_piece F4 N4' hnD (by omega) fun h5 c5 F5 N5 => ?_)
        refine wpAny_pure ⟨by kernel_rfl, ?_⟩
        refine ih l2 (pre ++ (l1 ++ [61, qhex (c1 / 16), qhex (c1 % 16)])) (ps2 ++ [(y, ty)]) c5 (k + 1) _ ?_ ?_ ?_ ?_ ?_ F5 N5 ?_
        · simp only [List.length_append, List.length_cons] at hl; omega
        · rw [htx]; simp only [List.append_assoc]
        · exact fun d hd => hb d (by simp [hd])
        · simp only [List.length_append, List.length_cons, List.length_nil]; omega
        · rw [List.flatMap_append, e2]
          simp only [List.flatMap_cons, List.flatMap_nil, List.append_nil, List.length_append, List.length_cons, List.length_nil, hy]
          omega
        · intro y2 ty2 h6 tk6 hy2 F6 N6
          refine hR y2 ty2 h6 tk6 ?_ F6 N6
          rw [hy2, List.flatMap_append, e2]
          simp only [List.flatMap_cons, List.flatMap_nil, List.append_nil, hy, List.append_assoc, List.cons_append, List.nil_append]
end
end
-- Sub7
section
section
variable {w : World} {p : Program} {loose : List Str} {mean : ExcName → Option Value} {mg mb : Str → Option Value} {dp un : Nat} {gd : Option (List Code)} {cn : Str} {cs : Scope} {a : Addr} {ccd : Value} {cl : List (Str × Addr)} {outer : List Env} {A₀ : Around} {base h₀ : Heap} {L : Addr} {m : Str → Option Value} {news : List (Addr × Obj)} {s : Shared}
theorem call_sub {S : Str} {tS : Tok} {l : List Nat} {E Q : Value → Shared → Prop} (B : Below A₀ base outer h₀) (F : Fr h₀ L s.heap m) (X : (hd.heap_39 w.params).In h₀) (N : News h₀ L s.heap news) (T : Top p loose mean mg mb h₀) (hk : cs.kind = .function) (hd : dp + 30 < recursionLimit) (hu : un + 120 < cLine) (hS : S.length ≤ 100000)
    (htx : S.cps.toList = erow l) (hb : ∀ c ∈ l, c < 256)
    (hQ : ∀ y ty h' tk', y.cps.toList = l → Fr h₀ L h' m → News h₀ L h' news → Q (.str y ty) { s with heap := h', toks := tk' }) :
    wpAny (model PySem.Challenge.rw_il0164_01.row.prog w) (ktrTop dp un gd cn cs L a ccd cl outer) (call (.builtin "re.Pattern.sub") [.ref 73, .ref 116, .str S tS]) Q E s := by
  obtain ⟨sl, X4⟩ := x4_of X T
  have S0 := Sat.led (own := []) F N (fun p hp => nomatch hp) (by simp)
  refine wpAny_call (go_again (y := ⟨w, sl, s.heap.objs.size, 0, s.toks, .none, none, #[]⟩) X4 99 [.k 73] (nst [] 0 s.toks) _ (c' := .builtin "re.Pattern.sub" ⟨[.ref 73, .ref 116, .str S tS], []⟩) S0 rfl rfl (by kernel_rfl) (fun h1 tk1 S1 ht1 => ?_) (by kernel_rfl) (by kernel_rfl))
  refine go_e (b := PySem.Builtin.«re.Pattern.sub») (entryFor_of_tree (by kernel_rfl)) ?_
  refine leaf (y := ⟨w, sl, s.heap.objs.size, 0, s.toks, .none, none, #[]⟩) X4 199 [.k 116, .k 73, .k 72, .k 72] _ _ (.again (.builtin "re.Pattern.sub.loop" (subArgs S tS 0 0 s.heap.objs.size))) S1 ht1 rfl (fun h2 tk2 S2 ht2 => ?_) (by kernel_rfl) (by kernel_rfl)
  have S3 : Sat s.heap.objs.size s.heap h₀ 1 [(s.heap.objs.size, seqObj "list" #[] 0)] h2 := S2.cast (by kernel_rfl) (by kernel_rfl)
  have keep := Sat.same2 (own := []) (new := [(s.heap.objs.size, seqObj "list" #[] 0)]) (fun p hp => nomatch hp) S3 (fun p hp => by rw [List.mem_singleton.mp hp]; exact Nat.le_refl _)
  have F2 := F.kept keep
  have N2 := N.grown keep
  have hnD : ∀ p ∈ news, p.1 ≠ s.heap.objs.size := fun p hp => Nat.ne_of_lt (Heap.lt_size (N p hp).1)
  have N3 : News h₀ L h2 ((s.heap.objs.size, PySem.W.listOf (([] : List (Str × Tok)).map strV).toArray 0) :: news) := fun p hp => by
    rcases List.mem_cons.mp hp with rfl | hp
    · exact ⟨S3.mine _ (.head _), Nat.ne_of_gt F.ns.lt, S3.fresh _ (.head _)⟩
    · exact N2 p hp
  refine ⟨by kernel_rfl, ?_⟩
  refine sub_loop s.heap.objs.size S tS B X T hk (by omega) (by omega) hS hnD l.length l [] [] 0 0 _ (Nat.le_refl _) htx hb (Nat.zero_le _) (Nat.zero_le _) F2 N3 ?_
  intro y ty h' tk' hy F' N'
  exact hQ y ty h' tk' hy F' N'
end
end
-- Hdec0
section
theorem sl_sub : Slot "re.Pattern" (Str.ofString "sub") "re.Pattern.sub" :=
  .of (owner := "re.Pattern") (n := "sub") (by rw [typeLookup_type, builtinLookup_eq_fast]; kernel_rfl) (by decide +kernel) (by decide +kernel) (by decide +kernel)
    (by first | exact .inl (by decide +kernel) | exact .inr (by decide +kernel)) (by rw [isSubtype_type]; kernel_rfl)
theorem ty_sub : typeOf (.builtin "re.Pattern.sub") = pure (.type "method_descriptor") := by kernel_rfl
theorem pa_pattern : PlainAttrs "re.Pattern" :=
  ⟨⟨"object.__getattribute__", by rw [typeLookup_type, builtinLookup_eq_fast]; kernel_rfl, by decide +kernel⟩, by rw [typeLookup_type, builtinLookup_eq_fast]; kernel_rfl⟩
theorem tk_gen {α : Type} {M : Model} {A : Around} {E : Value → Shared → Prop} {Q : α → Shared → Prop} {t : Sem α} {s : Shared} {h' : Heap} {n : Nat} (h : ∀ k, k ≠ 0 → wpAny M A t Q E { s with heap := h', toks := k }) : wpAny M A t Q E { s with heap := h', toks := s.toks + (n + 1) } := h _ (by omega)
theorem hdec {w : World} (x : Str) (t : Tok) (l : List Nat) (hb : ∀ c ∈ l, c < 256) (hx : x.cps.toList = qrow l) (hl : x.length ≤ 100000) (hrep : (Txt.replace x (Str.ofString "_") (Str.ofString " ")).cps.toList = erow l) (hlr : (Txt.replace x (Str.ofString "_") (Str.ofString " ")).length ≤ 100000) : CallsTo w 123 [.str x t] [] 40 200 (RetsStr (fun y => y.cps.toList = l)) := by
  unfold CallsTo RetsStr
  k_fill
  intros; rename_i hret
  refine wpAny_call ?_
  refine' code_def ?k1h41 ?k2h41 ?k3h41 ?k4h41 ?k5h41 ?kAh41 ?kFh41 ?kKh41 ?k6h41 ?k7h41 ?k8h41 ?k9h41 ?kBh41 ?_ ?c2h41 ?c3h41 ?c4h41 ?c5h41; (case kAh41 | kFh41 => exact rfl); (case kKh41 => first | assumption | exact rfl); (case k1h41 | k2h41 | k3h41 | k4h41 | k5h41 => k_asm); (case k6h41 | k7h41 => k_is); (case k8h41 => ktr_room); (case k9h41 => first | exact BindsTo.of_eq rfl | exact binds_K (by k_in) rfl (by k_is) rfl rfl rfl); (case c2h41 | c3h41 | c4h41 => exact rfl); (case c5h41 => decide); (case kBh41 => exact locs rfl); k_whole; intro iG iL iH iFG iF iN iB iX iT; (try dsimp only); (try k_lift iB); (try k_fold)
  refine tk_gen (n := 0) ?_
  intro tk0 htk0
  iterate 12 (walk_at "ONE")
  iterate 6 (walk_at "ONE")
  k_here
  rename Fr _ _ _ _ => F3
  rename (hd.heap_39 w.params).In _ => X3
  have h73 := F3.keep _ _ (X3 _ _ (by k_is : (hd.heap_39 w.params).lookup 73 = some _))
  refine' getMethod_builtin (v := .ref 73) (T := "re.Pattern") ?gT pa_pattern sl_sub ty_sub ?gd ?_
  case gT => exact ⟨_, h73, rfl⟩
  case gd => intro a ea; cases ea; exact ⟨_, h73, rfl⟩
  try dsimp only
  iterate 6 (walk_at "ONE")
  k_here
  refine call_sub (l := l) (by k_asm) (by k_asm) (by k_asm) (by k_asm) (by k_asm) rfl ?_ ?_ hlr hrep hb ?_
  · ktr_room
  · ktr_units
  intro y ty hy tky hyc Fy Ny
  try dsimp only
  iterate 2 (walk_at "ONE")
  refine hret _ _ _ _ hyc ?hF ?hN
  case hF => k_asm
  case hN => k_asm
end
-- Hdec
section
open Builtin Builtin.Str
theorem sub_1 (x : Str) (c i : Nat) (hi : i < x.length) : subAt x ⟨#[c]⟩ i = (x.cps.toList.getD i 0 == c) := by
  have hi' : i < x.cps.toList.length := by rw [Array.length_toList]; exact hi
  unfold subAt
  show (x.cps.extract i (i + 1) == #[c]) = _
  rw [Bool.eq_iff_iff, beq_iff_eq, beq_iff_eq, ← Array.toList_inj, Array.toList_extract, List.getD_eq_getElem?_getD, List.getElem?_eq_getElem hi']
  have : x.cps.toList.extract i (i + 1) = [x.cps.toList[i]] := by
    rw [List.extract_eq_drop_take, List.drop_eq_getElem_cons hi']
    simp
  rw [this]
  simp
def posOf (c : Nat) : Nat → List Nat → List Nat
  | _, [] => []
  | a, u :: r => if u = c then a :: posOf c (a + 1) r else posOf c (a + 1) r
theorem occ_go (x : Str) (c : Nat) : ∀ (r : List Nat) (a : Nat) (st : Array Nat × Nat), x.cps.toList.drop a = r → a + r.length = x.length → st.2 ≤ a → st.1.size ≤ a →
    (forIn (List.range' a (x.length + 1 - a)) st (StrLaws.occBody x ⟨#[c]⟩ x.length (x.length + 1))).run.fst.toList = st.1.toList ++ posOf c a r := by
  intro r
  induction r with
  | nil =>
    intro a st hd hl h1 h2
    simp only [List.length_nil, Nat.add_zero] at hl
    subst hl
    rw [show x.length + 1 - x.length = 1 by omega, List.range'_one, List.forIn_cons]
    unfold StrLaws.occBody
    rw [if_neg (fun h => absurd h.1.2 (by show ¬ (x.length + 1 ≤ x.length); omega))]
    simp [posOf]
  | cons u r ih =>
    intro a st hd hl h1 h2
    simp only [List.length_cons] at hl
    have ha : a < x.length := by omega
    have ha' : a < x.cps.toList.length := by rw [Array.length_toList]; exact ha
    have hu : x.cps.toList.getD a 0 = u := by
      rw [List.getD_eq_getElem?_getD, List.getElem?_eq_getElem ha']
      rw [List.drop_eq_getElem_cons ha'] at hd
      exact (List.cons.inj hd).1
    have hr : x.cps.toList.drop (a + 1) = r := by
      rw [List.drop_eq_getElem_cons ha'] at hd
      exact (List.cons.inj hd).2
    rw [show x.length + 1 - a = (x.length + 1 - (a + 1)) + 1 by omega, List.range'_succ, List.forIn_cons]
    by_cases hc : u = c
    · have e : StrLaws.occBody x ⟨#[c]⟩ x.length (x.length + 1) a st = pure (ForInStep.yield (st.1.push a, a + 1)) := by
        unfold StrLaws.occBody
        rw [if_pos ⟨⟨⟨by omega, h1⟩, by show a + 1 ≤ x.length; omega⟩, by rw [sub_1 x c a ha, hu, hc]; exact beq_self_eq_true c⟩]
        rfl
      rw [e]
      refine Eq.trans (ih (a + 1) (st.1.push a, a + 1) hr (by omega) (Nat.le_refl _) (by show (st.1.push a).size ≤ a + 1; rw [Array.size_push]; omega)) ?_
      simp [posOf, hc]
    · have e : StrLaws.occBody x ⟨#[c]⟩ x.length (x.length + 1) a st = pure (ForInStep.yield (st.1, st.2)) := by
        unfold StrLaws.occBody
        rw [if_neg (fun h => by have h3 := h.2; rw [sub_1 x c a ha, hu] at h3; exact hc (eq_of_beq h3))]
      rw [e]
      refine Eq.trans (ih (a + 1) (st.1, st.2) hr (by omega) (by show st.2 ≤ a + 1; omega) (by show st.1.size ≤ a + 1; omega)) ?_
      simp [posOf, hc]
theorem occ_pos (x : Str) (c : Nat) : occurrences x ⟨#[c]⟩ 0 x.length (x.length + 1) = posOf c 0 x.cps.toList := by
  rw [StrLaws.occ_eq]
  have := occ_go x c x.cps.toList 0 (#[], 0) rfl (by rw [Array.length_toList, Nat.zero_add]; rfl) (Nat.le_refl _) (Nat.le_refl _)
  rw [Nat.sub_zero] at this ⊢
  rw [this]
  simp
def spl (c : Nat) : List Nat → List Nat → List (List Nat)
  | cur, [] => [cur]
  | cur, u :: r => if u = c then cur :: spl c [] r else spl c (cur ++ [u]) r
theorem spl_ne (c : Nat) : ∀ (r cur : List Nat), ∃ p q, spl c cur r = p :: q
  | [], cur => ⟨_, _, rfl⟩
  | u :: r, cur => by
    unfold spl
    split
    · exact ⟨_, _, rfl⟩
    · exact spl_ne c r _
theorem sub_list (x : Str) (i j : Nat) : (strSub x i j).cps.toList = (x.cps.toList.drop i).take (j - i) := by
  show (x.cps.extract i j).toList = _
  rw [Array.toList_extract, List.extract_eq_drop_take]
theorem parts_spl (x : Str) (c : Nat) : ∀ (r : List Nat) (a b : Nat), x.cps.toList.drop a = r → a + r.length = x.length → b ≤ a →
    (StrLaws.partsFrom x 1 b (posOf c a r)).map (fun y => y.cps.toList) = spl c ((x.cps.toList.drop b).take (a - b)) r := by
  intro r
  induction r with
  | nil =>
    intro a b hd hl hb
    simp only [List.length_nil, Nat.add_zero] at hl
    subst hl
    show [(strSub x b x.length).cps.toList] = _
    rw [sub_list]; rfl
  | cons u r ih =>
    intro a b hd hl hb
    simp only [List.length_cons] at hl
    have ha' : a < x.cps.toList.length := by rw [Array.length_toList]; show a < x.length; omega
    rw [List.drop_eq_getElem_cons ha'] at hd
    have hr : x.cps.toList.drop (a + 1) = r := (List.cons.inj hd).2
    have hu : x.cps.toList[a] = u := (List.cons.inj hd).1
    unfold posOf spl
    by_cases hc : u = c
    · rw [if_pos hc, if_pos hc]
      show (strSub x b a).cps.toList :: (StrLaws.partsFrom x 1 (a + 1) (posOf c (a + 1) r)).map _ = _
      rw [ih (a + 1) (a + 1) hr (by omega) (Nat.le_refl _), sub_list, Nat.sub_self, List.take_zero]
    · rw [if_neg hc, if_neg hc, ih (a + 1) b hr (by omega) (by omega)]
      congr 1
      rw [show a + 1 - b = (a - b) + 1 by omega, List.take_add_one, List.getElem?_drop, show b + (a - b) = a by omega, List.getElem?_eq_getElem ha', hu]
      rfl
theorem join_spl (c d : Nat) : ∀ (r cur : List Nat) (ys : List Str), ys.map (fun y => y.cps.toList) = spl c cur r → (Str.join ⟨#[d]⟩ ys).cps.toList = cur ++ r.map (fun u => if u = c then d else u)
  | [], cur, ys, h => by
    match ys, h with
    | [y], h =>
      simp only [spl, List.map_cons, List.map_nil, List.cons.injEq, and_true] at h
      show y.cps.toList = _
      rw [h]; simp
    | [], h => simp [spl] at h
    | _ :: _ :: _, h => simp [spl] at h
  | u :: r, cur, ys, h => by
    unfold spl at h
    by_cases hc : u = c
    · rw [if_pos hc] at h
      match ys, h with
      | y :: zs, h =>
        simp only [List.map_cons, List.cons.injEq] at h
        obtain ⟨h1, h2⟩ := h
        obtain ⟨p, q, e⟩ := spl_ne c r []
        match zs, h2 with
        | [], h2 => rw [e] at h2; simp at h2
        | z :: zs, h2 =>
          have ih := join_spl c d r [] (z :: zs) h2
          rw [Str.join, Str.cps_append, Str.cps_append, Array.toList_append, Array.toList_append, ih, h1]
          · simp [hc]
          · intro h; cases h
      | [], h => simp at h
    · rw [if_neg hc] at h
      rw [join_spl c d r _ ys h]
      simp [hc]
theorem parts_all (x : Str) (c : Nat) : (partsBetween x (occurrences x ⟨#[c]⟩ 0 x.length (x.length + 1)) 1).map (fun y => y.cps.toList) = spl c [] x.cps.toList := by
  rw [StrLaws.partsBetween_eq, occ_pos, parts_spl x c x.cps.toList 0 0 rfl (by rw [Array.length_toList, Nat.zero_add]; rfl) (Nat.le_refl _)]
  rfl
theorem posOf_nil {c : Nat} : ∀ (r : List Nat) (a : Nat), posOf c a r = [] → ∀ u ∈ r, u ≠ c
  | [], _, _, _, h => nomatch h
  | u :: r, a, h, v, hv => by
    unfold posOf at h
    by_cases hc : u = c
    · rw [if_pos hc] at h; cases h
    · rw [if_neg hc] at h
      rcases List.mem_cons.mp hv with rfl | hv
      · exact hc
      · exact posOf_nil r _ h v hv
theorem repl_1 (x : Str) (c d : Nat) : (Txt.replace x ⟨#[c]⟩ ⟨#[d]⟩).cps.toList = x.cps.toList.map (fun u => if u = c then d else u) := by
  unfold Txt.replace
  by_cases h : ((occurrences x ⟨#[c]⟩ 0 x.length (x.length + 1)).isEmpty || ((⟨#[c]⟩ : Str).length == 0 && (⟨#[d]⟩ : Str).length == 0)) = true
  · rw [if_pos h]
    have h1 : (occurrences x ⟨#[c]⟩ 0 x.length (x.length + 1)).isEmpty = true := by
      rw [Bool.or_eq_true] at h
      rcases h with h | h
      · exact h
      · exact absurd (show (false && _) = true from h) (by simp)
    rw [occ_pos] at h1
    have h2 := posOf_nil _ _ (List.isEmpty_iff.mp h1)
    have h3 : x.cps.toList.map (fun u => if u = c then d else u) = x.cps.toList.map (fun u => u) := List.map_congr_left fun u hu => if_neg (h2 u hu)
    rw [h3]; simp
  · rw [if_neg h, StrLaws.glued_eq_join]
    have := join_spl c d x.cps.toList [] _ (parts_all x c)
    rw [List.nil_append] at this
    exact this
theorem ecps_of {c : Nat} (hc : c < 256) : (qcps c).map (fun u => if u = 95 then 32 else u) = ecps c := by
  unfold ecps
  by_cases h : c = 32
  · subst h; rfl
  · rw [if_neg h]
    unfold qcps
    by_cases hs : qsafe c = true
    · rw [if_pos hs]
      have : c ≠ 95 := by rintro rfl; revert hs; decide
      simp [this]
    · rw [if_neg hs, if_neg h]
      have h1 : qhex (c / 16) ≠ 95 := by unfold qhex; split <;> omega
      have h2 : qhex (c % 16) ≠ 95 := by unfold qhex; split <;> omega
      simp [h1, h2]
theorem erow_of : ∀ l : List Nat, (∀ c ∈ l, c < 256) → (qrow l).map (fun u => if u = 95 then 32 else u) = erow l
  | [], _ => rfl
  | c :: l, h => by
    show ((qcps c) ++ qrow l).map _ = ecps c ++ erow l
    rw [List.map_append, ecps_of (h c (.head _)), erow_of l fun d hd => h d (.tail _ hd)]
theorem lit_us : Str.ofString "_" = ⟨#[95]⟩ := by decide +kernel
theorem lit_sp : Str.ofString " " = ⟨#[32]⟩ := by decide +kernel
theorem repl_us {x : Str} {l : List Nat} (hb : ∀ c ∈ l, c < 256) (hx : x.cps.toList = qrow l) : (Txt.replace x (Str.ofString "_") (Str.ofString " ")).cps.toList = erow l := by
  rw [lit_us, lit_sp, repl_1, hx, erow_of l hb]
theorem hdec_q {w : World} (x : Str) (t : Tok) (l : List Nat) (hb : ∀ c ∈ l, c < 256) (hx : x.cps.toList = qrow l) (hl : x.length ≤ 100000) : CallsTo w 123 [.str x t] [] 40 200 (RetsStr (fun y => y.cps.toList = l)) :=
  hdec x t l hb hx hl (repl_us hb hx) (by
    show (Txt.replace x (Str.ofString "_") (Str.ofString " ")).cps.size ≤ 100000
    rw [← Array.length_toList, lit_us, lit_sp, repl_1, List.length_map, Array.length_toList]; exact hl)
end
-- Loopc
section
def itRC (x left c : Int) : Obj := { cls := .type "range_iterator", data := .fields #[rawInt x, rawInt left, rawInt c] }
section
variable {prog : Program} {w : World} {A : Around} {E : Value → Shared → Prop} {s : Shared} {env : Env} {h₀ : Heap} {x : Str} {body : List Stmt} {Q : Flow → Shared → Prop}
theorem walks_loop {I : Addr} {n : Nat} {P : Nat → Value → Prop} {St : Nat → Heap → Prop} {m₀ : Str → Option Value} {news : List (Addr × Obj)} {s₂ : Shared} {it : Nat → Obj → Prop}
    (W : Walks prog w A I [I] [I] n P St) (hst : St 0 s₂.heap) (hIt : ∀ i h, St i h → ∃ o, h.get? I = some o ∧ it i o) (hI0 : h₀.get? I = none) (hIL : env.locals ≠ I) (F : Fr h₀ env.locals s₂.heap m₀) (N : News h₀ env.locals s₂.heap news) (hlt : ∀ p ∈ news, p.1 ≠ I)
    (INV : Nat → (Str → Option Value) → List (Addr × Obj) → Prop) (h0 : INV 0 m₀ news)
    (step : ∀ (i : Nat) (v : Value) (o : Obj) (m : Str → Option Value) (news : List (Addr × Obj)), i < n → P i v → it (i + 1) o → INV i m news → ∀ h tk, Fr h₀ env.locals h (fun y => if y = x then some v else m y) → News h₀ env.locals h ((I, o) :: news) →
      wpAny (model prog w) A (execs body env) (UnrPost h₀ env.locals { s₂ with heap := h, toks := tk } I o (INV (i + 1)) Q) E { s₂ with heap := h, toks := tk })
    (fin : ∀ (m : Str → Option Value) (news : List (Addr × Obj)) (h : Heap) (tk : Nat), INV n m news → Fr h₀ env.locals h m → News h₀ env.locals h news → Q .next { s₂ with heap := h, toks := tk }) :
    LoopAtV prog w A h₀ env x body Q E (.ref I) s₂ := by
  refine ⟨_, _, _, n, _, _, m₀, news, INV, rfl, W, ?_, ?_, ?_, hst, F, N, h0, ?_, ?_⟩
  · intro hm
    exact hIL (List.mem_singleton.mp hm)
  · intro b hb
    rw [List.mem_singleton.mp hb]
    exact hI0
  · intro p hp hm
    exact hlt p hp (List.mem_singleton.mp hm)
  · rintro i v m₁ news₁ s₁ own ⟨hh', tk', rfl⟩ hin hP hJ hoff hown hget hall hst F₁ N₁
    obtain ⟨o, ho, hio⟩ := hIt _ _ hst
    have hmem := hall I (List.mem_singleton.mpr rfl) hI0 _ ho
    have N₂ : News h₀ env.locals hh' ((I, o) :: news₁) := fun p hp => by
      rcases List.mem_cons.mp hp with rfl | hp
      · exact N₁ _ (List.mem_append_left _ hmem)
      · exact N₁ _ (List.mem_append_right _ hp)
    refine wpAny_mono (step i v o m₁ news₁ hin hP hio hJ hh' tk' F₁ N₂) (fun f s₂' p => ?_) fun _ _ e => e
    have fin' : UnrEnd h₀ env.locals { s₂ with heap := hh', toks := tk' } I o (INV (i + 1)) s₂' → LoopStepU h₀ env.locals [I] own (INV (i + 1)) { s₂ with heap := hh', toks := tk' } .next s₂' := by
      rintro ⟨h', tk, m', news', e, F', N', ho', r⟩
      refine ⟨rfl, h', tk, m', news', e, F', fun p hp => ?_, fun p hp hI => ho' p hp (List.mem_singleton.mp hI), r⟩
      rcases List.mem_append.mp hp with hp | hp
      · have h1 : p.1 = I := List.mem_singleton.mp (hown p hp)
        have h2 : hh'.get? p.1 = some p.2 := hget p hp
        have h3 : p = (I, o) := by
          rw [h1, ho] at h2
          exact Prod.ext h1 (Option.some.inj h2).symm
        rw [h3]; exact N' _ (List.mem_cons_self ..)
      · exact N' _ (List.mem_cons_of_mem _ hp)
    cases f with
    | ret v => exact .ret p
    | brk => exact .brk p
    | next => exact .next (fin' p)
    | cont => exact .cont (fin' p)
  · rintro h' tk m' news' F' N' _ hJ
    exact fin m' news' h' tk hJ F' N'
theorem iter_rangeC {r : Addr} {a₀ b₀ c₀ : Int} {t₀ u₀ v₀ : Tok} {n : Nat} {m₀ : Str → Option Value} {news : List (Addr × Obj)}
    (hh : A.handled = none) (hr : IsRange s.heap r a₀ b₀ c₀ t₀ u₀ v₀) (hsmall : Builtin.Range.small a₀ b₀ c₀ = true) (hn : Builtin.Range.rangeSize a₀ b₀ c₀ = (n : Int)) (F : Fr h₀ env.locals s.heap m₀) (N : News h₀ env.locals s.heap news)
    (INV : Nat → (Str → Option Value) → List (Addr × Obj) → Prop) (h0 : INV 0 m₀ news)
    (step : ∀ (I : Addr) (i : Nat) (t : Tok) (o : Obj) (m : Str → Option Value) (news' : List (Addr × Obj)), (∀ p ∈ news, @LT.lt Nat _ p.1 I) → i < n → o.cls = .type "range_iterator" → INV i m news' → ∀ h tk, Fr h₀ env.locals h (fun y => if y = x then some (.int (a₀ + (i : Int) * c₀) t) else m y) → News h₀ env.locals h ((I, o) :: news') →
      wpAny (model prog w) A (execs body env) (UnrPost h₀ env.locals { s with heap := h, toks := tk } I o (INV (i + 1)) Q) E { s with heap := h, toks := tk })
    (fin : ∀ (m : Str → Option Value) (news : List (Addr × Obj)) (h : Heap) (tk : Nat), INV n m news → Fr h₀ env.locals h m → News h₀ env.locals h news → Q .next { s with heap := h, toks := tk }) :
    wpAny (model prog w) A (pyIter (.ref r)) (fun it s₂ => LoopAtV prog w A h₀ env x body Q E it s₂) E s := by
  refine wpAny_pyIter_range hr hsmall ?_
  rw [hn]
  have hlt : ∀ p ∈ news, @LT.lt Nat _ p.1 s.heap.objs.size := fun p hp => Heap.lt_size (N p hp).1
  refine walks_loop (s₂ := { s with heap := s.heap.push _ }) (it := fun _ o => o.cls = .type "range_iterator") (Walks.range hh _ a₀ c₀ n) (by show IsRangeIter _ _ _ _ _; simpa using Heap.get?_push_size _ rfl) (fun i h st => ⟨_, st, rfl⟩) (next_is_new F) (Nat.ne_of_lt F.ns.lt) (F.push _) (fun p hp => ⟨Heap.get?_push_of_some _ (N p hp).1, (N p hp).2⟩) (fun p hp => Nat.ne_of_lt (hlt p hp)) INV h0 ?_ ?_
  · rintro i v o m news' hi ⟨t, rfl⟩ ho hI h tk F' N'
    exact step _ i t o m news' hlt hi ho hI h tk F' N'
  · intro m news' h tk hI F' N'
    exact fin m news' h tk hI F' N'
end
section
variable {prog : Program} {w : World} {A : Around} {E : Value → Shared → Prop} {s : Shared} {env : Env} {h₀ : Heap} {x : Str} {body : List Stmt} {Q : Flow → Shared → Prop}
theorem iter_strC {y : Str} {ty : Tok} {m₀ : Str → Option Value} {news : List (Addr × Obj)}
    (hh : A.handled = none) (ha : y.cps.all (· < 128) = true) (F : Fr h₀ env.locals s.heap m₀) (N : News h₀ env.locals s.heap news)
    (INV : Nat → (Str → Option Value) → List (Addr × Obj) → Prop) (h0 : INV 0 m₀ news)
    (step : ∀ (I : Addr) (i c : Nat) (t : Tok) (o : Obj) (m : Str → Option Value) (news' : List (Addr × Obj)), (∀ p ∈ news, @LT.lt Nat _ p.1 I) → y.cps[i]? = some c → o.cls = .type "str_ascii_iterator" → INV i m news' → ∀ h tk, Fr h₀ env.locals h (fun z => if z = x then some (.str ⟨#[c]⟩ t) else m z) → News h₀ env.locals h ((I, o) :: news') →
      wpAny (model prog w) A (execs body env) (UnrPost h₀ env.locals { s with heap := h, toks := tk } I o (INV (i + 1)) Q) E { s with heap := h, toks := tk })
    (fin : ∀ (m : Str → Option Value) (news : List (Addr × Obj)) (h : Heap) (tk : Nat), INV y.cps.size m news → Fr h₀ env.locals h m → News h₀ env.locals h news → Q .next { s with heap := h, toks := tk }) :
    wpAny (model prog w) A (pyIter (.str y ty)) (fun it s₂ => LoopAtV prog w A h₀ env x body Q E it s₂) E s := by
  refine wpAny_pyIter_ascii ha ?_
  have hlt : ∀ p ∈ news, @LT.lt Nat _ p.1 s.heap.objs.size := fun p hp => Heap.lt_size (N p hp).1
  refine walks_loop (s₂ := { s with heap := s.heap.push _ }) (it := fun _ o => o.cls = .type "str_ascii_iterator") (Walks.strAscii hh _ y ty) ⟨_, Heap.get?_push_size _ rfl, rfl, rfl⟩ (fun i h st => by obtain ⟨o, ho, hc, _⟩ := st; exact ⟨o, ho, hc⟩) (next_is_new F) (Nat.ne_of_lt F.ns.lt) (F.push _) (fun p hp => ⟨Heap.get?_push_of_some _ (N p hp).1, (N p hp).2⟩) (fun p hp => Nat.ne_of_lt (hlt p hp)) INV h0 ?_ ?_
  · rintro i v o m news' hi ⟨c, t, hc, rfl⟩ ho hI h tk F' N'
    exact step _ i c t o m news' hlt hc ho hI h tk F' N'
  · intro m news' h tk hI F' N'
    exact fin m news' h tk hI F' N'
end
end
-- Thrp
section
theorem threes_app : ∀ (k : Nat) (l1 l2 : List Int), l1.length = 4 * k → threes (l1 ++ l2) = threes l1 ++ threes l2
  | 0, l1, l2, h => by
    obtain rfl : l1 = [] := List.eq_nil_of_length_eq_zero (by omega)
    rfl
  | k + 1, l1, l2, h => by
    match l1, h with
    | a :: b :: c :: d :: r, h =>
      have ih := threes_app k r l2 (by simp only [List.length_cons] at h; omega)
      show three (wholeOf a b c d) ++ threes (r ++ l2) = (three (wholeOf a b c d) ++ threes r) ++ threes l2
      rw [ih, List.append_assoc]
    | [], h => simp at h
    | [_], h => simp at h; omega
    | [_, _], h => simp at h; omega
    | [_, _, _], h => simp at h; omega
theorem four {l : List Int} {n i : Nat} (h : l.length = 4 * n) (hi : i < n) : ∃ a b c d, (l.drop (4 * i)).take 4 = [a, b, c, d] ∧ l.take (4 * (i + 1)) = l.take (4 * i) ++ [a, b, c, d] := by
  have hl : ((l.drop (4 * i)).take 4).length = 4 := by rw [List.length_take, List.length_drop]; omega
  match e : (l.drop (4 * i)).take 4, hl with
  | [a, b, c, d], _ =>
    refine ⟨a, b, c, d, rfl, ?_⟩
    rw [← e, show 4 * (i + 1) = 4 * i + 4 by omega, List.take_add]
def foldW (l : List Int) : Int := l.foldl (fun a v => a * 64 + sval v) 0
theorem foldW_4 (a b c d : Int) : foldW [a, b, c, d] = wholeOf a b c d := rfl
theorem foldW_snoc (l : List Int) (v : Int) : foldW (l ++ [v]) = foldW l * 64 + sval v := by unfold foldW; rw [List.foldl_append]; rfl
abbrev LETS : Str := Str.ofString "ABCDEFGHIJKLMNOPQRSTUVWXYZabcdefghijklmnopqrstuvwxyz0123456789+/"
theorem lets_at : (List.range 64).all (fun v => match Builtin.Str.occurrences LETS ⟨#[(b64at (v : Int)).toNat]⟩ 0 LETS.length 1 with | j :: _ => j == v | [] => false) = true := by decide +kernel
theorem lets_idx {v : Nat} (h : v < 64) : ∃ r, Builtin.Str.occurrences LETS ⟨#[(b64at (v : Int)).toNat]⟩ 0 LETS.length 1 = v :: r := by
  have := List.all_eq_true.mp lets_at v (List.mem_range.mpr h)
  split at this
  · rename_i j r e
    have := eq_of_beq this
    subst this
    exact ⟨r, e⟩
  · cases this
def sgn (c : Int) : Prop := c = 61 ∨ ∃ v : Nat, v < 64 ∧ c = b64at (v : Int)
theorem sgn_q : ∀ ks : List Int, octs ks → ∀ c ∈ b64q ks, sgn c := by
  have at_ : ∀ v : Int, 0 ≤ v → v < 64 → sgn (b64at v) := fun v h0 h1 => .inr ⟨v.toNat, by omega, by rw [Int.toNat_of_nonneg h0]⟩
  have go : ∀ n (ks : List Int), ks.length ≤ n → octs ks → ∀ c ∈ b64q ks, sgn c := by
    intro n
    induction n with
    | zero =>
      intro ks hl _ c hc
      obtain rfl : ks = [] := List.eq_nil_of_length_eq_zero (by omega)
      simp [b64q] at hc
    | succ n ih =>
      intro ks hl ho c hc
      match ks, hl, ho, hc with
      | [], _, _, hc => simp [b64q] at hc
      | [a], _, ho, hc =>
        have ha := ho a (by simp)
        simp only [b64q, List.mem_cons, List.not_mem_nil, or_false] at hc
        rcases hc with rfl | rfl | rfl | rfl
        · exact at_ _ (by omega) (by omega)
        · exact at_ _ (by omega) (by omega)
        · exact .inl rfl
        · exact .inl rfl
      | [a, b], _, ho, hc =>
        have ha := ho a (by simp); have hb := ho b (by simp)
        simp only [b64q, List.mem_cons, List.not_mem_nil, or_false] at hc
        rcases hc with rfl | rfl | rfl | rfl
        · exact at_ _ (by omega) (by omega)
        · exact at_ _ (by omega) (by omega)
        · exact at_ _ (by omega) (by omega)
        · exact .inl rfl
      | a :: b :: d :: r, hl, ho, hc =>
        have ha := ho a (by simp); have hb := ho b (by simp); have hd := ho d (by simp)
        simp only [b64q, List.cons_append, List.nil_append, List.mem_cons] at hc
        rcases hc with rfl | rfl | rfl | rfl | hc
        · exact at_ _ (by omega) (by omega)
        · exact at_ _ (by omega) (by omega)
        · exact at_ _ (by omega) (by omega)
        · exact at_ _ (by omega) (by omega)
        · exact ih r (by simp only [List.length_cons] at hl; omega) (fun n hn => ho n (by simp [hn])) c hc
  exact fun ks => go ks.length ks (Nat.le_refl _)
theorem sgn_idx {c : Int} (h : sgn c) : ∃ r v, Builtin.Str.occurrences LETS ⟨#[if c.toNat = 61 then 65 else c.toNat]⟩ 0 LETS.length 1 = v :: r ∧ ((v : Nat) : Int) = sval c ∧ c.toNat < 128 := by
  rcases h with rfl | ⟨v, hv, rfl⟩
  · obtain ⟨r, e⟩ := lets_idx (v := 0) (by decide)
    exact ⟨r, 0, e, rfl, by decide⟩
  · have h1 := b64at_range (v : Int)
    have h2 := b64at_lt (v : Int)
    have hne : (b64at (v : Int)).toNat ≠ 61 := fun e => at_ne (v : Int) (by omega) (by omega) (by omega)
    obtain ⟨r, e⟩ := lets_idx hv
    rw [if_neg hne]
    exact ⟨r, v, e, (sval_at (v : Int) (by omega) (by omega)).symm, by omega⟩
theorem threes_len : ∀ (k : Nat) (l : List Int), l.length = 4 * k → (threes l).length = 3 * k
  | 0, l, h => by
    obtain rfl : l = [] := List.eq_nil_of_length_eq_zero (by omega)
    rfl
  | k + 1, l, h => by
    match l, h with
    | a :: b :: c :: d :: r, h =>
      have ih := threes_len k r (by simp only [List.length_cons] at h; omega)
      show (three (wholeOf a b c d) ++ threes r).length = _
      rw [List.length_append, ih]
      show 3 + 3 * k = _
      omega
    | [], h => simp at h
    | [_], h => simp at h; omega
    | [_, _], h => simp at h; omega
    | [_, _, _], h => simp at h; omega
theorem three_f {us : List Value} {l1 : List Int} {k : Nat} {a b c d : Int} {t1 t2 t3 : Tok} (hl : l1.length = 4 * k) (h : IntsAre us (threes l1)) : IntsAre (us ++ [.int (Int.fdiv (wholeOf a b c d) 65536) t1, .int (Int.fmod (Int.fdiv (wholeOf a b c d) 256) 256) t2, .int (Int.fmod (wholeOf a b c d) 256) t3]) (threes (l1 ++ [a, b, c, d])) := by
  rw [threes_app k _ _ hl]
  refine h.append ?_
  show IntsAre _ ((three (wholeOf a b c d)) ++ [])
  rw [List.append_nil]
  unfold three
  simp only [Int.fdiv_eq_ediv_of_nonneg _ (show (0 : Int) ≤ 65536 by decide), Int.fdiv_eq_ediv_of_nonneg _ (show (0 : Int) ≤ 256 by decide), Int.fmod_eq_emod_of_nonneg _ (show (0 : Int) ≤ 256 by decide)]
  exact .cons _ _ (.cons _ _ (.cons _ _ .nil))
theorem unr_end3 {h₀ : Heap} {L I D l : Addr} {it oD ol : Obj} {rest : (Str → Option Value) → List (Addr × Obj) → Prop} {s₁ : Shared} {h' : Heap} {tk : Nat} {m' : Str → Option Value} {news' : List (Addr × Obj)} (F : Fr h₀ L h' m') (N : News h₀ L h' ((D, oD) :: (I, it) :: (l, ol) :: news'))
    (off : ∀ p ∈ (l, ol) :: news', p.1 ≠ I) (r : rest m' ((l, ol) :: news')) : UnrEnd h₀ L s₁ I it rest { s₁ with heap := h', toks := tk } := UnrEnd.intro F N ((l, ol) :: news') (fun p hp => by
    rcases List.mem_cons.mp hp with rfl | hp
    · exact .tail _ (.head _)
    · exact .tail _ (.tail _ hp)) off r
theorem small_all : (List.range 101).all (fun n => Builtin.Range.small 0 ((4 * n : Nat) : Int) 4) = true := by decide +kernel
theorem small_4 {n : Nat} (h : n ≤ 100) : Builtin.Range.small 0 ((4 * n : Nat) : Int) 4 = true := List.all_eq_true.mp small_all n (List.mem_range.mpr (by omega))
theorem pos_len : ∀ (c : Nat) (r : List Nat) (a : Nat), (posOf c a r).length = r.count c
  | _, [], _ => rfl
  | c, u :: r, a => by
    unfold posOf
    by_cases h : u = c
    · rw [if_pos h, h, List.length_cons, pos_len c r, List.count_cons_self]
    · rw [if_neg h, pos_len c r, List.count_cons_of_ne h]
theorem cnt_q {ks : List Int} (hk : octs ks) : ((b64q ks).map Int.toNat).count 61 = pads (b64q ks) := by
  have : ∀ l : List Int, (∀ c ∈ l, sgn c) → (l.map Int.toNat).count 61 = l.count 61 := by
    intro l
    induction l with
    | nil => intro _; rfl
    | cons c l ih =>
      intro h
      have h1 := ih fun d hd => h d (.tail _ hd)
      rw [List.map_cons, List.count_cons, List.count_cons, h1]
      congr 1
      rcases h c (.head _) with rfl | ⟨v, hv, rfl⟩
      · rfl
      · have hr := b64at_range (v : Int)
        have h2 := at_ne (v : Int) (by omega) (by omega)
        have h3 : (b64at (v : Int)).toNat ≠ 61 := by omega
        simp [h2, h3]
  exact this _ (sgn_q ks hk)
end
-- Thr
section
section
variable {prog : Program} {w : World} {A : Around} {E : Value → Shared → Prop} {s : Shared} {h₀ : Heap} {L : Addr} {m : Str → Option Value} {news : List (Addr × Obj)} {value slice : PySem.Expr} {x : Str} {t : Tok} {Q : Value → Shared → Prop}
theorem post_vos0 {s : Shared} {c : Prop} [Decidable c] {y z : Str} {t : Tok} {Q : Value → Shared → Prop} (hs0 : s.toks ≠ 0) (h : (if c then y else z).length ≤ sizeLine ∧ ∀ t' k, k ≠ 0 → Q (.str (if c then y else z) t') { s with toks := k }) :
    (if c then Made.val (.str y t) else Made.str z).post Q s := by
  by_cases hc : c
  · rw [if_pos hc]; have h' := h.2 t s.toks hs0; rw [if_pos hc] at h'; exact h'
  · rw [if_neg hc]; have h' := h.2 s.toks (s.toks + 1) (Nat.succ_ne_zero _); have h1 := h.1; rw [if_neg hc] at h' h1; exact ⟨h1, h'⟩
theorem slice_ss0 {i j : Int} {ui uj : Tok} (hF : Fr h₀ L s.heap m) (hN : News h₀ L s.heap news) (hs0 : s.toks ≠ 0) (h : ∀ h' t' k, k ≠ 0 → Fr h₀ L h' m → News h₀ L h' news → Q (.str (Txt.slice x (some i) (some j)) t') { s with heap := h', toks := k })
    (hs : subscripted slice false (.str x t) (.ref s.heap.objs.size) = operate [.ref s.heap.objs.size, .str x t] (getItem (.str x t) (.ref s.heap.objs.size)) := by with_unfolding_all rfl)
    (ht : ∀ r, letTemporaryGo value (.str x t) r = pure () := by intro _; with_unfolding_all rfl) (hsz : x.length ≤ sizeLine := by size_fits) :
    wpAny (model prog w) A (subscriptTail value slice (.str x t) (.ref s.heap.objs.size)) Q E { s with heap := s.heap.push { cls := .type "slice", data := .fields #[.int i ui, .int j uj, .none] } } :=
  tail_of_ItemOn ⟨"str", _, PySem.F.slot_str_getitem.lookup, typeIs_str _ _ _, wpAny_getItem_str_slice (l := some (i, ui)) (u := some (j, uj)) (st := none) ⟨_, Heap.get?_push_size _ rfl, rfl, rfl⟩ rfl
    (post_vos0 hs0 ⟨Nat.le_trans (Txt.slice_le x _ _) hsz, fun t' k hk => h _ t' k hk (hF.push _) (fun p hp => ⟨Heap.get?_push_of_some _ (hN p hp).1, (hN p hp).2⟩)⟩)⟩ hs ht
theorem slice_cps (x : Str) {i j : Int} (h : 0 ≤ i ∧ i ≤ j ∧ j ≤ x.cps.toList.length) : (Txt.slice x (some i) (some j)).cps.toList = (x.cps.toList.drop i.toNat).take (j - i).toNat := by
  have := eq_of_beq (slice_closes h)
  rw [this]
theorem slice_neg (x : Str) {i j : Int} (hj : j < 0) (h1 : -(x.length : Int) ≤ j) (h : 0 ≤ i ∧ i ≤ j + x.length) : (Txt.slice x (some i) (some j)).cps.toList = (x.cps.toList.drop i.toNat).take (j + x.length - i).toNat := by
  have e : Txt.slice x (some i) (some j) = Txt.slice x (some i) (some (j + x.length)) := by
    unfold Txt.slice
    rw [StrLaws.sliceIdx_neg_hi _ _ hj h1]
  rw [e, slice_cps x ⟨h.1, h.2, by rw [Array.length_toList]; show j + (x.length : Int) ≤ (x.length : Int); omega⟩]
end
inductive ThrI (lo : Addr) (x : Str) (t : Tok) (ks : List Int) (news0 : List (Addr × Obj)) (i : Nat) (m : Str → Option Value) (news' : List (Addr × Obj)) : Prop
  | mk (us : List Value) (c : Nat) (tl : Tok) (e : news' = (lo, PySem.W.listOf us.toArray c) :: news0) (h1 : m (Str.ofString "signs") = some (.str x t)) (h2 : m (Str.ofString "letters") = some (.str (Str.ofString "ABCDEFGHIJKLMNOPQRSTUVWXYZabcdefghijklmnopqrstuvwxyz0123456789+/") tl)) (h3 : m (Str.ofString "octets") = some (.ref lo)) (h4 : IntsAre us (threes ((b64q ks).take (4 * i)))) : ThrI lo x t ks news0 i m news'
theorem lawthr {w : World} (x : Str) (t : Tok) (n : Nat) (ks : List Int) (hks : octs ks) (hq : x.cps.toList = (b64q ks).map Int.toNat) (hx : x.length = 4 * n) (hn : n ≤ 100) : CallsTo w 165 [.str x t] [] 10 100 (fun h₀ L m news s Q => ∀ (D : Addr) us c h' tk', (∀ p ∈ news, @Ne Nat p.1 D) → IntsAre us ks → Fr h₀ L h' m → News h₀ L h' ((D, PySem.W.listOf us.toArray c) :: news) → Q (.ref D) { s with heap := h', toks := tk' }) := by
  unfold CallsTo
  k_fill
  intros; rename_i h₀ L m news s Q E hB hF hX hN hT hk hd hu hret
  refine wpAny_call ?_
  refine' code_def ?k1h42 ?k2h42 ?k3h42 ?k4h42 ?k5h42 ?kAh42 ?kFh42 ?kKh42 ?k6h42 ?k7h42 ?k8h42 ?k9h42 ?kBh42 ?_ ?c2h42 ?c3h42 ?c4h42 ?c5h42; (case kAh42 | kFh42 => exact rfl); (case kKh42 => first | assumption | exact rfl); (case k1h42 | k2h42 | k3h42 | k4h42 | k5h42 => k_asm); (case k6h42 | k7h42 => k_is); (case k8h42 => ktr_room); (case k9h42 => first | exact BindsTo.of_eq rfl | exact binds_K (by k_in) rfl (by k_is) rfl rfl rfl); (case c2h42 | c3h42 | c4h42 => exact rfl); (case c5h42 => decide); (case kBh42 => exact locs rfl); k_whole; intro iG iL iH iFG iF iN iB iX iT; (try dsimp only); (try k_lift iB); (try k_fold)
  iterate 30 (walk_at "ONE")
  k_here
  refine range3_rows (by k_asm) (by k_asm) ?sm ?_
  case sm => decide
  intro h5 tk5 r1 r2 r3 hr F5 N5 kk
  try dsimp only
  rename_i _ lo _ ll _ _ _
  k_here
  refine iter_rangeC (n := n) rfl hr ?sm2 ?rz F5 N5 (ThrI lo x t ks news) ?ini ?step ?fin
  case sm2 => rw [hx]; exact small_4 hn
  case rz =>
    rw [rangeSize_pos (by decide) (by omega), hx]
    omega
  case ini => exact ⟨[], _, _, rfl, rfl, rfl, rfl, .nil⟩
  case fin =>
    rintro m1 news1 h6 tk6 ⟨us, c, tl, rfl, hms, hml, hmo, hus⟩ F6 N6
    try dsimp only
    have hlen : (b64q ks).length = 4 * n := by
      have := congrArg List.length hq
      rw [Array.length_toList, List.length_map] at this
      rw [← this]; exact hx
    rw [show 4 * n = (b64q ks).length from hlen.symm, List.take_length] at hus
    have hul : us.length = 3 * n := by rw [hus.length]; exact threes_len n _ hlen
    iterate 14 (walk_at "ONE")
    k_here
    rename News _ _ _ _ => N8
    refine' Calls.call_len_list (items := us.toArray) (l := lo) ?hl8 ?hf8 ?_
    case hl8 => exact ⟨_, (N8 _ (.head _)).1, rfl, _, rfl⟩
    case hf8 => rw [List.size_toArray, hul]; omega
    rw [List.size_toArray, hul]
    try dsimp only
    have hpad := threes_q ks hks
    have hcnt : Txt.count x (Str.ofString "=") = (pads (b64q ks) : Int) := by
      unfold Txt.count
      rw [show Str.ofString "=" = ⟨#[61]⟩ by decide +kernel, occ_pos, pos_len, hq, cnt_q hks]
    have htl : (threes (b64q ks)).length = 3 * n := threes_len n _ hlen
    have hy0 : (0 : Int) ≤ ((3 * n : Nat) : Int) - (pads (b64q ks) : Int) := by
      have h2 := hpad.2.1
      rcases Nat.eq_zero_or_pos n with rfl | hn0
      · have : b64q ks = [] := List.eq_nil_of_length_eq_zero (by omega)
        rw [this]; decide
      · omega
    iterate 10 (walk_at "ONE")
    rw [hcnt]
    k_here
    rename Fr _ _ _ _ => F9
    rename News _ _ _ _ => N9
    refine' kmk_slice F9 N9 (its := us.toArray) (l := lo) ?ls IsPart.none (IsPart.int _ _) ?_ ?ss ?st ?sz
    case ls => exact ⟨_, (N9 _ (.head _)).1, rfl, _, rfl⟩
    case ss => with_unfolding_all rfl
    case st => kmk_pure
    case sz => rw [List.size_toArray, hul, sizeLine_eq]; omega
    intro D h8 F10 N10 l10
    try dsimp only
    iterate 2 (walk_at "ONE")
    rename Fr _ _ _ _ => F11
    rename News _ _ _ _ => N11
    refine hret D (slicePick us.toArray none (some (((3 * n : Nat) : Int) - (pads (b64q ks) : Int))) none).toList 0 _ _ (fun p hp => Nat.ne_of_lt (l10 p (.tail _ hp))) ?_ F11 ?_
    · have h1 := kmk_upto hus hy0
      rw [show ((((3 * n : Nat) : Int) - (pads (b64q ks) : Int))).toNat = (threes (b64q ks)).length - pads (b64q ks) by omega, hpad.1] at h1
      exact h1
    · intro p hp
      rcases List.mem_cons.mp hp with rfl | hp
      · rw [Array.toArray_toList]; exact N11 _ (.head _)
      · exact N11 _ (.tail _ (.tail _ hp))
  case step =>
    intro I i ti o m1 news1 hlt hi ho hI h6 tk6 F6 N6
    refine wpAny_abs ?_
    intro qS hqS
    obtain ⟨us, c, tl, rfl, hms, hml, hmo, hus⟩ := hI
    try k_lt hlt
    iterate 26 (first | ((with_reducible show wpAny _ _ (subscriptTail _ (Expr.Slice (some _) (some _) none _) (Value.str _ _) (Value.ref _)) _ _ _); (with_reducible rename Fr _ _ _ _ => iF); (with_reducible rename News _ _ _ _ => iN); refine slice_ss0 (hsz := by rw [sizeLine_eq]; omega) (s := ⟨_, _, _, _, _⟩) iF iN (by exact Nat.succ_ne_zero _) ?_; intro _ _ _ htk0 _ _) | walk_at "ONE")
    have hlen : (b64q ks).length = 4 * n := by
      have := congrArg List.length hq
      rw [Array.length_toList, List.length_map] at this
      rw [← this]; exact hx
    obtain ⟨a4, b4, c4, d4, h4, htk⟩ := four hlen hi
    have hsg : ∀ c ∈ [a4, b4, c4, d4], sgn c := fun c hc => sgn_q ks hks c (List.mem_of_mem_drop (List.mem_of_mem_take (h4 ▸ hc)))
    have hsl : (Txt.slice x (some (0 + (i : Int) * 4)) (some (0 + (i : Int) * 4 + 4))).cps.toList = [a4, b4, c4, d4].map Int.toNat := by
      rw [slice_cps x ⟨by omega, by omega, by rw [Array.length_toList]; show _ ≤ (x.length : Int); omega⟩, hq, show (0 + (i : Int) * 4).toNat = 4 * i by omega, show (0 + (i : Int) * 4 + 4 - (0 + (i : Int) * 4)).toNat = 4 by omega, ← List.map_drop, ← List.map_take, h4]
    k_here
    refine' SC.replaceW ?u1 ?u2 ?u3 ?yz ?len ?zl ?_
    case u1 => assumption
    case u2 => exact Nat.succ_ne_zero _
    case u3 => exact Nat.ne_of_lt (Nat.lt_succ_self _)
    case yz => decide +kernel
    case zl => decide +kernel
    case len =>
      show (Txt.slice x _ _).cps.size ≤ _
      rw [← Array.length_toList, hsl]; simp
    intro t7 k7
    have hy : (Txt.replace (Txt.slice x (some (0 + (i : Int) * 4)) (some (0 + (i : Int) * 4 + 4))) (Str.ofString "=") (Str.ofString "A")).cps.toList = [a4, b4, c4, d4].map (fun c => if c.toNat = 61 then 65 else c.toNat) := by
      rw [show Str.ofString "=" = ⟨#[61]⟩ by decide +kernel, show Str.ofString "A" = ⟨#[65]⟩ by decide +kernel, repl_1, hsl, List.map_map]; rfl
    generalize Txt.replace (Txt.slice x (some (0 + (i : Int) * 4)) (some (0 + (i : Int) * 4 + 4))) (Str.ofString "=") (Str.ofString "A") = y at hy
    try dsimp only
    k_here
    refine iter_strC rfl ?asc (by k_asm) (by k_asm) (fun j m2 news2 => ∃ tw, news2 = (I, o) :: (lo, PySem.W.listOf us.toArray c) :: news ∧ m2 (Str.ofString "whole") = some (.int (foldW ([a4, b4, c4, d4].take j)) tw) ∧ m2 (Str.ofString "signs") = some (.str x t) ∧ m2 (Str.ofString "letters") = some (.str LETS tl) ∧ m2 (Str.ofString "octets") = some (.ref lo)) ?ini2 ?step2 ?fin2
    case asc =>
      rw [← Array.all_toList, hy]
      rw [List.all_eq_true]
      intro u hu
      obtain ⟨v, hv, rfl⟩ := List.mem_map.mp hu
      obtain ⟨_, _, _, _, h128⟩ := sgn_idx (hsg v hv)
      split <;> simp <;> omega
    case ini2 =>
      refine ⟨_, rfl, if_pos rfl, ?_, ?_, ?_⟩
      · walk_at "NM"
      · walk_at "NM"
      · walk_at "NM"
    case fin2 =>
      rintro m2 news2 h9 tk9 ⟨tw, rfl, hw, hs2, hl2, ho3⟩ F9 N9
      have hys : y.cps.size = 4 := by rw [← Array.length_toList, hy]; rfl
      rw [hys, show [a4, b4, c4, d4].take 4 = [a4, b4, c4, d4] from rfl, foldW_4] at hw
      try dsimp only
      iterate 29 (walk_at "ONE")
      rename Fr _ _ _ _ => F10
      rename News _ _ _ _ => N10
      rename (_ ∧ _ ∧ AllLt _ news) => lD
      have hul : us.length = 3 * i := by
        rw [hus.length]
        exact threes_len i _ (by rw [List.length_take]; omega)
      k_here
      refine' kl_extend (its := us.toArray) (l := us ++ [_, _, _]) F10 N10 (.head _) ?xe ?xn (Upd.tail ?xa (Upd.tail ?xb (Upd.head ?xc))) ?xd ?xz ?xy ?_
      case xe => rfl
      case xn => exact (by decide : (3 : Nat) ≠ 0)
      case xa => exact neN (id (Nat.ne_of_gt lD.2.1))
      case xb => exact neN (id (Nat.ne_of_gt hlt.1))
      case xc => exact fun p hp => Nat.ne_of_lt (ll p hp)
      case xd =>
        rw [Bool.and_eq_true]
        rintro ⟨_, h⟩
        unfold Builtin.List.listTooLong at h
        simp only [decide_eq_true_eq, List.size_toArray, hul] at h
        rw [sizeLine_eq] at h
        have : (3 * i + 3 : Nat) > 16777216 := h
        omega
      case xz => rw [Array.length_toList, List.size_toArray, hul, sizeLine_eq]; omega
      case xy => rw [List.size_toArray, hul, sizeLine_eq]; show 3 * i + 3 ≤ _; omega
      intro h11 F11 N11
      try dsimp only
      iterate 1 (walk_at "ONE")
      refine wpAny_execs_nil ?_
      refine Toward.use hqS ?_
      show UnrEnd _ _ _ _ _ _ _
      refine unr_end3 F11 N11 ?sO ?sR
      case sO =>
        intro p hp
        rcases List.mem_cons.mp hp with rfl | hp
        · exact Nat.ne_of_lt hlt.1
        · exact offs hlt.2 p hp
      case sR =>
        refine ⟨_, _, _, rfl, by assumption, by assumption, by assumption, ?_⟩
        rw [htk]
        exact three_f (k := i) (by rw [List.length_take]; omega) hus
    case step2 =>
      intro I2 j cj tj o2 m2 news2 hlt2 hcj ho2 hI h8 tk8 F8 N8
      refine wpAny_abs ?_
      intro qT hqT
      obtain ⟨tw, rfl, hw, hs2, hl2, ho3⟩ := hI
      have hcj' : ([a4, b4, c4, d4].map (fun c => if c.toNat = 61 then 65 else c.toNat))[j]? = some cj := by rw [← hy, Array.getElem?_toList]; exact hcj
      rw [List.getElem?_map] at hcj'
      obtain ⟨v, hv, rfl⟩ := Option.map_eq_some_iff.mp hcj'
      obtain ⟨ri, vi, hocc, hval, _⟩ := sgn_idx (hsg v (List.mem_of_getElem? hv))
      have hnext : [a4, b4, c4, d4].take (j + 1) = [a4, b4, c4, d4].take j ++ [v] := by rw [List.take_add_one, hv]; rfl
      iterate 14 (walk_at "ONE")
      k_here
      refine SC.index hocc ?_
      try dsimp only
      iterate 3 (walk_at "ONE")
      rename Fr _ _ _ _ => F9
      rename News _ _ _ _ => N9
      refine wpAny_execs_nil ?_
      refine Toward.use hqT ?_
      show UnrEnd _ _ _ _ _ _ _
      refine' UnrEnd.intro F9 N9 ((I, o) :: (lo, PySem.W.listOf us.toArray c) :: news) (fun p hp => hp) (fun p hp => Nat.ne_of_lt (hlt2 p hp)) ⟨_, rfl, ?w2, ?s2, ?l2, ?o3⟩
      case w2 =>
        rw [hnext, foldW_snoc, ← hval]
        exact if_pos rfl
      case s2 => walk_at "NM"
      case l2 => walk_at "NM"
      case o3 => walk_at "NM"
end
-- Read1
section
section
variable {prog : Program} {w : World} {A : Around} {E : Value → Shared → Prop} {s : Shared} {env : Env} {h₀ : Heap} {x : Str} {body : List Stmt} {Q : Flow → Shared → Prop}
theorem lr_ind {I : Addr} {lp : Addr × Obj} {vs : List Value} (INV : Nat → (Str → Option Value) → List (Addr × Obj) → Prop)
    (step : ∀ (i : Nat) (v : Value) (m : Str → Option Value) (news : List (Addr × Obj)), vs[i]? = some v → INV i m news → ∀ (it : Obj) h tk, it.cls = .type "list_iterator" → Fr h₀ env.locals h (fun y => if y = x then some v else m y) → News h₀ env.locals h ((I, it) :: news) →
      wpAny (model prog w) A (execs body env) (UnrPost h₀ env.locals { s with heap := h, toks := tk } I it (fun m' n' => lp ∈ n' ∧ INV (i + 1) m' n') Q) E { s with heap := h, toks := tk })
    (fin : ∀ (m : Str → Option Value) (news : List (Addr × Obj)) (h : Heap) (tk : Nat), INV vs.length m news → Fr h₀ env.locals h m → News h₀ env.locals h news → Q .next { s with heap := h, toks := tk }) :
    ∀ (ys : List Value) (i : Nat) m news, vs.drop i = ys → i ≤ vs.length → INV i m news → ListRest prog w A E h₀ env x body Q s I lp ys m news := by
  intro ys
  induction ys with
  | nil =>
    intro i m news e hl hI
    have : i = vs.length := by
      have := congrArg List.length e
      rw [List.length_drop, List.length_nil] at this; omega
    subst this
    exact ListRest.zero fun h tk F N => fin _ _ h tk hI F N
  | cons y ys ih =>
    intro i m news e hl hI
    have hlt : i < vs.length := by
      have := congrArg List.length e
      rw [List.length_drop, List.length_cons] at this; omega
    rw [List.drop_eq_getElem_cons hlt] at e
    have hx : vs[i]? = some y := by rw [List.getElem?_eq_getElem hlt]; exact congrArg some (List.cons.inj e).1
    have he : vs.drop (i + 1) = ys := (List.cons.inj e).2
    refine ListRest.succ fun it h tk hit F N => ?_
    refine wpAny_mono (step i y m news hx hI it h tk hit F N) (fun f s₂ p => ?_) fun _ _ e => e
    exact UnrPost.mono (fun m' n' hm => ⟨hm.1, ih (i + 1) m' n' he hlt hm.2⟩) p
end
section
variable {prog : Program} {w : World} {A : Around} {E : Value → Shared → Prop} {s : Shared} {h₀ : Heap} {L : Addr} {m : Str → Option Value} {env : Env}
theorem str_st {ty : String} {I : Addr} {y : Str} {t : Tok} : ∀ i (h h' : Heap) (o : Obj) (nw : List (Addr × Obj)), h.IsStrIter I ty y t i → h.get? I = some o → h'.get? I = some o → (∀ b o, h₀.get? b = some o → h'.get? b = some o) → News h₀ L h' nw → True → h'.IsStrIter I ty y t i :=
  fun i h h' o nw st e e' _ _ _ => by
    obtain ⟨o', q, r⟩ := st
    rw [e] at q; cases q
    exact ⟨o, e', r⟩
theorem ListComp_S {elt iter : PySem.Expr} {x : Str} {px : Pos} {scope : Scope} {cl : List (Str × Addr)} {pos : Pos} {Q : Value → Shared → Prop} (F₀ : Fr h₀ L s.heap m)
    (hclos : closureFor scope env = pure cl) (hcell : ∀ y ∈ scope.names, y.2 ≠ .cell) (hkind : scope.kind = .function)
    (hnames : ∀ y ∈ scope.names, y.2 = .local → scope.names.lookup y.1 = some .local) (hx : scope.names.lookup x = some .local)
    (h : wpAny (model prog w) A (eval iter env) (fun xv s₁ => ∃ y ty news, xv = .str y ty ∧ A.handled = none ∧ Fr h₀ L s₁.heap m ∧ News h₀ L s₁.heap news ∧ y.cps.size ≤ sizeLine ∧ ∀ g, LCg.CompRest prog w A h₀ L m env elt x scope cl { s₁ with heap := g } (fun _ => True) (SignAt y) (LCg.FinE h₀ L m { s₁ with heap := g } Q) y.cps.size 0 [] news) E s)
    (hs : ∀ x, foldedSetIterable iter env x = pure x := by intro _; rfl) :
    wpAny (model prog w) A (eval (.ListComp elt [⟨.Name x px, iter, [], 0⟩] scope pos) env) Q E s := by
  rw [eval_ListComp]
  refine wpAny_comprehension_free (use := none) rfl hs hclos hkind hnames (wpAny_mono h (fun xv s₁ h₁ => ?_) fun _ _ e => e)
  obtain ⟨y, ty, news, rfl, hh, F, N, hsz, R⟩ := h₁
  cases ha : y.cps.all (· < 128)
  · refine wpAny_pyIter_wide ha ?_
    refine LCg.block_U (Walks.strWide hh s₁.heap.objs.size y ty) hsz (fun i h st => by obtain ⟨o, e, _⟩ := st; exact ⟨o, e⟩) str_st hcell hkind hx ⟨_, Heap.get?_push_size _ rfl, rfl, rfl⟩ (fun b hb => ?_)
      (F.keeps fun _ _ e => Heap.get?_push_of_some _ e) (N.grown fun _ _ e => Heap.get?_push_of_some _ e) (Nat.ne_of_lt F.ns.lt) (next_is_new F) (fun p hp => Nat.ne_of_lt (Heap.lt_size (N p hp).1)) trivial (R _) ?_
    · rw [List.mem_singleton.mp hb]
      show s₁.heap.objs.size < (s₁.heap.push _).objs.size
      rw [Heap.size_push]; exact Nat.lt_succ_self _
    · intro D C h tk m' ys news' F' N' o1 hn hC₀ hD₀ hCL hDL hCD offC fin
      refine ⟨m', hn, fun h'' hs'' => fin D h'' tk (F'.change hs'' hCL hC₀) (fun p hp => ?_) o1⟩
      refine ⟨hs''.extBut _ _ ?_ (N' p hp).1, (N' p hp).2⟩
      rcases List.mem_cons.mp hp with rfl | hp
      · exact Ne.symm hCD
      · exact offC p hp
  · refine wpAny_pyIter_ascii ha ?_
    refine LCg.block_U (Walks.strAscii hh s₁.heap.objs.size y ty) hsz (fun i h st => by obtain ⟨o, e, _⟩ := st; exact ⟨o, e⟩) str_st hcell hkind hx ⟨_, Heap.get?_push_size _ rfl, rfl, rfl⟩ (fun b hb => ?_)
      (F.keeps fun _ _ e => Heap.get?_push_of_some _ e) (N.grown fun _ _ e => Heap.get?_push_of_some _ e) (Nat.ne_of_lt F.ns.lt) (next_is_new F) (fun p hp => Nat.ne_of_lt (Heap.lt_size (N p hp).1)) trivial (R _) ?_
    · rw [List.mem_singleton.mp hb]
      show s₁.heap.objs.size < (s₁.heap.push _).objs.size
      rw [Heap.size_push]; exact Nat.lt_succ_self _
    · intro D C h tk m' ys news' F' N' o1 hn hC₀ hD₀ hCL hDL hCD offC fin
      refine ⟨m', hn, fun h'' hs'' => fin D h'' tk (F'.change hs'' hCL hC₀) (fun p hp => ?_) o1⟩
      refine ⟨hs''.extBut _ _ ?_ (N' p hp).1, (N' p hp).2⟩
      rcases List.mem_cons.mp hp with rfl | hp
      · exact Ne.symm hCD
      · exact offC p hp
theorem kcs_rest {elt : PySem.Expr} {x : Str} {scope : Scope} {cl : List (Str × Addr)} {y : Str} {Fin : List Value → List (Addr × Obj) → Prop} {news : List (Addr × Obj)}
    (turn : ∀ c t I oI C oC D m₂ ys h tk (E' : Value → Shared → Prop), c ∈ y.cps.toList → LCg.NsObj oC m₂ → m₂ x = some (.str ⟨#[c]⟩ t) → Fr h₀ L h m → News h₀ L h ((I, oI) :: (C, oC) :: (D, LCg.lst ys) :: news) → LCg.Off3 I C D news → ((@Ne Nat I C) ∧ (@Ne Nat I D) ∧ (@Ne Nat C D)) →
      wpAny (model prog w) A (eval elt (compEnvC scope cl C env)) (LCg.CompEnd h₀ L m { s with heap := h, toks := tk } I oI C oC D (LCg.lst ys) (fun _ => True) (fun v news' => KCfEl news ((c : Nat) : Int) v news')) E' { s with heap := h, toks := tk })
    (fin : ∀ ys, IntsAre ys (y.cps.toList.map fun c => ((c : Nat) : Int)) → Fin ys news) : LCg.CompRest prog w A h₀ L m env elt x scope cl s (fun _ => True) (SignAt y) Fin y.cps.size 0 [] news := by
  have key : ∀ (j i : Nat) (ys : List Value), i + j = y.cps.size → IntsAre ys ((y.cps.toList.take i).map fun c => ((c : Nat) : Int)) → LCg.CompRest prog w A h₀ L m env elt x scope cl s (fun _ => True) (SignAt y) Fin j i ys news := by
    intro j
    induction j with
    | zero =>
      intro i ys hi hy
      rw [List.take_of_length_le (by rw [Array.length_toList]; omega)] at hy
      exact LCg.CompRest.zero (fin ys hy)
    | succ j ih =>
      intro i ys hi hy
      refine LCg.CompRest.succ ?_
      intro v I oI C oC D m₂ h tk E' hv hC hx F N off ne
      obtain ⟨c, t, hk, rfl⟩ := hv
      have hk' : y.cps.toList[i]? = some c := by rw [Array.getElem?_toList]; exact hk
      refine wpAny_mono (turn c t I oI C oC D m₂ ys h tk E' (List.mem_of_getElem? hk') hC hx F N off ne) (fun v s₂ hq => ?_) fun _ _ e => e
      obtain ⟨h', tk', nw, e, F', N', off', hS, hn, t', hy'⟩ := hq
      rw [hn] at N' off'
      refine ⟨h', tk', news, e, F', N', off', hS, ?_⟩
      rw [hy']
      refine ih (i + 1) _ (by omega) ?_
      rw [List.take_add_one, hk']
      simpa using IntsAre.append hy (.cons ((c : Nat) : Int) t' .nil)
  exact key y.cps.size 0 [] (by omega) (by simp only [List.take_zero, List.map_nil]; exact .nil)
end
end
-- Readp
section
def wtext (a : Bool × List Nat) : List Nat := if a.1 then qword a.2 else bword a.2
def wjoin : List (Bool × List Nat) → List Nat
  | [] => []
  | [a] => wtext a
  | a :: b :: r => wtext a ++ 32 :: wjoin (b :: r)
theorem spl_no {c : Nat} : ∀ (u cur : List Nat), (∀ v ∈ u, v ≠ c) → spl c cur u = [cur ++ u]
  | [], cur, _ => by simp [spl]
  | v :: u, cur, h => by
    unfold spl
    rw [if_neg (h v (.head _)), spl_no u _ fun d hd => h d (.tail _ hd)]
    simp
theorem spl_app {c : Nat} : ∀ (u cur r : List Nat), (∀ v ∈ u, v ≠ c) → spl c cur (u ++ c :: r) = (cur ++ u) :: spl c [] r
  | [], cur, r, _ => by simp [spl]
  | v :: u, cur, r, h => by
    have e : spl c cur (v :: (u ++ c :: r)) = if v = c then cur :: spl c [] (u ++ c :: r) else spl c (cur ++ [v]) (u ++ c :: r) := rfl
    show spl c cur (v :: (u ++ c :: r)) = _
    rw [e, if_neg (h v (.head _)), spl_app u _ r fun d hd => h d (.tail _ hd)]
    simp
theorem qcps_no (c : Nat) : ∀ v ∈ qcps c, v ≠ 32 := by
  intro v hv
  unfold qcps at hv
  split at hv
  · rename_i hs
    rw [List.mem_singleton.mp hv]
    rintro rfl; revert hs; decide
  · split at hv
    · rw [List.mem_singleton.mp hv]; decide
    · simp only [List.mem_cons, List.not_mem_nil, or_false] at hv
      rcases hv with rfl | rfl | rfl
      · decide
      · unfold qhex; split <;> omega
      · unfold qhex; split <;> omega
theorem wtext_no {a : Bool × List Nat} (h : ∀ c ∈ a.2, c < 256) : ∀ v ∈ wtext a, v ≠ 32 := by
  intro v hv
  unfold wtext at hv
  split at hv
  · unfold qword at hv
    simp only [List.mem_append, List.mem_cons, List.not_mem_nil, or_false] at hv
    rcases hv with (hv | hv) | hv
    · rcases hv with rfl | rfl | rfl | rfl | rfl | rfl <;> decide
    · unfold qrow at hv
      obtain ⟨c, _, hc⟩ := List.mem_flatMap.mp hv
      exact qcps_no c v hc
    · rcases hv with rfl | rfl <;> decide
  · unfold bword at hv
    simp only [List.mem_append, List.mem_cons, List.not_mem_nil, or_false] at hv
    rcases hv with (hv | hv) | hv
    · rcases hv with rfl | rfl | rfl | rfl | rfl | rfl <;> decide
    · obtain ⟨c, hc, rfl⟩ := List.mem_map.mp hv
      have ho : octs (a.2.map Int.ofNat) := fun n hn => by
        obtain ⟨m, hm, rfl⟩ := List.mem_map.mp hn
        have := h m hm
        show 0 ≤ (m : Int) ∧ (m : Int) < 256
        omega
      rcases sgn_q _ ho c hc with rfl | ⟨u, hu, rfl⟩
      · decide
      · have : ∀ u, u < 64 → (b64at ((u : Nat) : Int)).toNat ≠ 32 := by decide +kernel
        exact this u hu
    · rcases hv with rfl | rfl <;> decide
theorem spl_join : ∀ (ws : List (Bool × List Nat)), ws ≠ [] → (∀ a ∈ ws, ∀ c ∈ a.2, c < 256) → spl 32 [] (wjoin ws) = ws.map wtext
  | [], h, _ => absurd rfl h
  | [a], _, h => by
    show spl 32 [] (wtext a) = _
    rw [spl_no _ _ (wtext_no (h a (.head _)))]; rfl
  | a :: b :: r, _, h => by
    show spl 32 [] (wtext a ++ 32 :: wjoin (b :: r)) = _
    rw [spl_app _ _ _ (wtext_no (h a (.head _))), spl_join (b :: r) (by simp) fun d hd => h d (.tail _ hd)]; rfl
theorem split_sp (x : Str) : (Txt.split x (Str.ofString " ")).map (fun y => y.cps.toList) = spl 32 [] x.cps.toList := by
  rw [show Str.ofString " " = ⟨#[32]⟩ by decide +kernel]
  unfold Txt.split
  by_cases h1 : (decide (x.length < (⟨#[32]⟩ : Str).length) || decide (Builtin.Str.strKind x < Builtin.Str.strKind ⟨#[32]⟩)) = true
  · rw [if_pos h1]
    rw [Bool.or_eq_true, decide_eq_true_eq, decide_eq_true_eq] at h1
    have hk : Builtin.Str.strKind ⟨#[32]⟩ = 1 := by decide +kernel
    have hx : 1 ≤ Builtin.Str.strKind x := by unfold Builtin.Str.strKind; split <;> (try split) <;> decide
    have h0 : x.length < 1 := by
      rcases h1 with h1 | h1
      · exact h1
      · omega
    have : x.cps.toList = [] := List.eq_nil_of_length_eq_zero (by rw [Array.length_toList]; show x.length = 0; omega)
    rw [List.map_cons, List.map_nil, this]; rfl
  · rw [if_neg h1]
    by_cases h2 : (Builtin.Str.occurrences x ⟨#[32]⟩ 0 x.length (x.length + 1)).isEmpty = true
    · rw [if_pos h2]
      rw [occ_pos] at h2
      rw [spl_no _ _ (posOf_nil _ _ (List.isEmpty_iff.mp h2))]; rfl
    · rw [if_neg h2]
      exact parts_all x 32
theorem wtext_len {a : Bool × List Nat} (h : a.2.length ≤ 200) : (wtext a).length ≤ 1000 := by
  unfold wtext
  split
  · have := qword_len a.2; omega
  · unfold bword
    have := b64q_len (a.2.map Int.ofNat)
    simp only [List.length_append, List.length_map, List.length_cons, List.length_nil] at this ⊢
    omega
theorem pre_6 {y : Str} {a : Bool × List Nat} (h : y.cps.toList = wtext a) : Txt.slice y none (some 6) = if a.1 then Str.ofString "=?x?q?" else Str.ofString "=?x?b?" := by
  have e1 : Str.ofString "=?x?q?" = ⟨#[61, 63, 120, 63, 113, 63]⟩ := by decide +kernel
  have e2 : Str.ofString "=?x?b?" = ⟨#[61, 63, 120, 63, 98, 63]⟩ := by decide +kernel
  have h6 : 6 ≤ y.cps.toList.length := by
    rw [h]; unfold wtext qword bword
    split <;> simp only [List.length_append, List.length_cons, List.length_nil] <;> omega
  have e3 := eq_of_beq (slice_closes_to (x := y) (j := 6) ⟨by omega, by omega⟩)
  rw [e3]
  show (⟨((y.cps.toList.drop 0).take 6).toArray⟩ : Str) = _
  rw [List.drop_zero, h]
  unfold wtext
  cases a.1
  · rw [if_neg (by decide), if_neg (by decide), e2]; rfl
  · rw [if_pos rfl, if_pos rfl, e1]; rfl
theorem mid_word {y : Str} {u : List Nat} {p : List Nat} (hp : p.length = 6) (h : y.cps.toList = p ++ u ++ [63, 61]) : (Txt.slice y (some 6) (some (-2))).cps.toList = u := by
  have hl : y.length = 6 + u.length + 2 := by
    show y.cps.size = _
    rw [← Array.length_toList, h]; simp only [List.length_append, List.length_cons, List.length_nil]; omega
  rw [slice_neg y (by decide) (by omega) ⟨by decide, by omega⟩, h, List.append_assoc]
  rw [show ((6 : Int)).toNat = p.length by rw [hp]; rfl, List.drop_left, show (-2 + (y.length : Int) - 6).toNat = u.length by omega, List.take_left]
end
-- Lawread
section
theorem news_2b {h₀ h : Heap} {L : Addr} {x y : Addr × Obj} {r : List (Addr × Obj)} (N : News h₀ L h (x :: y :: r)) : News h₀ L h (y :: x :: r) := fun p hp => N p (by
  rcases List.mem_cons.mp hp with rfl | hp
  · exact .tail _ (.head _)
  · rcases List.mem_cons.mp hp with rfl | hp
    · exact .head _
    · exact .tail _ (.tail _ hp))
theorem splitN2 {prog : Program} {w : World} {A : Around} {E : Value → Shared → Prop} {s : Shared} {h₀ : Heap} {L : Addr} {m : Str → Option Value} {news : List (Addr × Obj)} {x y : Str} {t u : Tok} {Q : Value → Shared → Prop} (hF : Fr h₀ L s.heap m) (hN : News h₀ L s.heap news) (hy : (y.length == 0) = false)
    (h : ∀ (D : Addr) l h' k, l.map (·.1) = Txt.split x y → Fr h₀ L h' m → News h₀ L h' ((D, { cls := .type "list", data := .seq (strValues l).toArray }) :: news) → (∀ p ∈ news, @LT.lt Nat _ p.1 D) → Q (.ref D) { s with heap := h', toks := k })
    (hsz : x.length + 2 ≤ sizeLine) : wpAny (model prog w) A (call (.builtin "str.split") [.str x t, .str y u]) Q E s :=
  splitN1 hF hN hy (fun l h' k e F N => h _ l h' k e F N fun p hp => Heap.lt_size (hN p hp).1) hsz
theorem words_len {ws : List (Bool × List Nat)} (hwl : ∀ a ∈ ws, 0 < a.2.length ∧ a.2.length ≤ 200) (hw5 : ws.length ≤ 5) (i : Nat) : ((ws.take i).flatMap (fun a => a.2)).length ≤ 1000 := by
  have go : ∀ l : List (Bool × List Nat), (∀ a ∈ l, a.2.length ≤ 200) → (l.flatMap (fun a => a.2)).length ≤ l.length * 200 := by
    intro l
    induction l with
    | nil => intro _; simp
    | cons a l ih =>
      intro h
      have h1 := ih fun b hb => h b (.tail _ hb)
      have h2 := h a (.head _)
      simp only [List.flatMap_cons, List.length_append, List.length_cons, Nat.add_mul, Nat.one_mul]
      omega
  have h1 := go (ws.take i) fun a ha => (hwl a (List.mem_of_mem_take ha)).2
  have h2 : (ws.take i).length ≤ ws.length := by rw [List.length_take]; omega
  omega
inductive RdI (lo ax : Addr) (ol : Obj) (ws : List (Bool × List Nat)) (news0 : List (Addr × Obj)) (i : Nat) (m : Str → Option Value) (news' : List (Addr × Obj)) : Prop
  | mk (us : List Value) (c : Nat) (e : news' = (lo, PySem.W.listOf us.toArray c) :: (ax, ol) :: news0) (h1 : m (Str.ofString "octets") = some (.ref lo)) (h2 : IntsAre us (((ws.take i).flatMap (fun a => a.2)).map fun c => ((c : Nat) : Int))) : RdI lo ax ol ws news0 i m news'
theorem lawread {w : World} (x : Str) (t : Tok) (ws : List (Bool × List Nat)) (hws : ws ≠ []) (hw256 : ∀ a ∈ ws, ∀ c ∈ a.2, c < 256) (hwl : ∀ a ∈ ws, 0 < a.2.length ∧ a.2.length ≤ 200) (hw5 : ws.length ≤ 5) (hx : x.cps.toList = wjoin ws) (hl : x.length ≤ 10000) :
    CallsTo w 170 [.str x t] [] 60 400 (fun h₀ L m news s Q => ∀ D us c h' tk', IntsAre us ((ws.flatMap (fun a => a.2)).map fun c => ((c : Nat) : Int)) → Fr h₀ L h' m → News h₀ L h' ((D, PySem.W.listOf us.toArray c) :: news) → Q (.ref D) { s with heap := h', toks := tk' }) := by
  unfold CallsTo
  k_fill
  intros; rename_i h₀ L m news s Q E hB hF hX hN hT hk hdp hup hret
  refine wpAny_call ?_
  refine' code_def ?k1h44 ?k2h44 ?k3h44 ?k4h44 ?k5h44 ?kAh44 ?kFh44 ?kKh44 ?k6h44 ?k7h44 ?k8h44 ?k9h44 ?kBh44 ?_ ?c2h44 ?c3h44 ?c4h44 ?c5h44; (case kAh44 | kFh44 => exact rfl); (case kKh44 => first | assumption | exact rfl); (case k1h44 | k2h44 | k3h44 | k4h44 | k5h44 => k_asm); (case k6h44 | k7h44 => k_is); (case k8h44 => ktr_room); (case k9h44 => first | exact BindsTo.of_eq rfl | exact binds_K (by k_in) rfl (by k_is) rfl rfl rfl); (case c2h44 | c3h44 | c4h44 => exact rfl); (case c5h44 => decide); (case kBh44 => exact locs rfl); k_whole; intro iG iL iH iFG iF iN iB iX iT; (try dsimp only); (try k_lift iB); (try k_fold)
  iterate 17 (walk_at "ONE")
  rename_i lo _ ll _ F3 N3
  k_here
  refine' splitN2 F3 N3 (by decide +kernel) ?_ ?sz
  case sz => rw [sizeLine_eq]; omega
  intro ax l h5 k5 hls F5 N5 lax
  try dsimp only
  have hlw : l.map (fun p => p.1.cps.toList) = ws.map wtext := by
    have := congrArg (List.map (fun y : Str => y.cps.toList)) hls
    rw [List.map_map, split_sp, hx, spl_join ws hws hw256] at this
    exact this
  k_here
  refine iter_listUnr (vs := strValues l) rfl F5 (news_2b N5) (.tail _ (.head _)) rfl rfl ?_
  intro I l2
  try k_lt l2
  have hll : (List.map (fun p : Str × Tok => Value.str p.1 p.2) l).length = ws.length := by
    have := congrArg List.length hlw
    rw [List.length_map, List.length_map] at this
    rw [List.length_map]; exact this
  refine lr_ind (RdI lo ax { cls := .type "list", data := .seq (strValues l).toArray } ws news) ?step ?fin _ 0 _ _ rfl (Nat.zero_le _) ?ini
  case ini => exact ⟨[], _, rfl, rfl, .nil⟩
  case fin =>
    rintro m1 news1 h6 tk6 ⟨us, c, rfl, hmo, hus⟩ F6 N6
    rw [hll, List.take_length] at hus
    try dsimp only
    iterate 4 (walk_at "ONE")
    rename Fr _ _ _ _ => F9
    rename News _ _ _ _ => N9
    refine hret lo us c _ _ hus F9 fun p hp => N9 p ?_
    rcases List.mem_cons.mp hp with rfl | hp
    · exact .head _
    · exact .tail _ (.tail _ hp)
  case step =>
    intro i v m1 news1 hv hI o h6 tk6 ho F6 N6
    refine wpAny_abs ?_
    intro qS hqS
    obtain ⟨us, c, rfl, hmo, hus⟩ := hI
    unfold strValues at hv
    rw [List.getElem?_map] at hv
    obtain ⟨⟨y, ty⟩, hy, rfl⟩ := Option.map_eq_some_iff.mp hv
    have hyw : (ws.map wtext)[i]? = some y.cps.toList := by rw [← hlw, List.getElem?_map, hy]; rfl
    rw [List.getElem?_map] at hyw
    obtain ⟨a, ha, hya⟩ := Option.map_eq_some_iff.mp hyw
    have ha256 := hw256 a (List.mem_of_getElem? ha)
    obtain ⟨ha0, ha200⟩ := hwl a (List.mem_of_getElem? ha)
    have hnext : ws.take (i + 1) = ws.take i ++ [a] := by rw [List.take_add_one, ha]; rfl
    try dsimp only
    have hyl : y.length ≤ 1000 := by
      show y.cps.size ≤ 1000
      rw [← Array.length_toList, ← hya]; exact wtext_len ha200
    have hp6 := pre_6 hya.symm
    iterate 10 (walk_at "ONE")
    rename Fr _ _ _ _ => F7
    rename News _ _ _ _ => N7
    refine' slice_strN_ns (hsz := ?hsz) (s := ⟨_, _, _, _, _⟩) F7 N7 ?_
    case hsz => exact Nat.le_trans hyl (by rw [sizeLine_eq]; decide)
    intro h8 t8 k8 F8 N8
    rw [hp6]
    obtain ⟨ka, row⟩ := a
    cases ka
    case false =>
      rw [if_neg Bool.false_ne_true]
      try dsimp only
      iterate 26 (walk_at "ONE")
      rename Fr _ _ _ _ => F9
      rename News _ _ _ _ => N9
      refine' slice_strN_ss (hsz := ?hsz2) (s := ⟨_, _, _, _, _⟩) F9 N9 ?_
      case hsz2 => exact Nat.le_trans hyl (by rw [sizeLine_eq]; decide)
      intro h9 t9 k9 F10 N10
      have hks : octs (row.map Int.ofNat) := fun z hz => by
        obtain ⟨m, hm, rfl⟩ := List.mem_map.mp hz
        have := ha256 m hm
        show 0 ≤ (m : Int) ∧ (m : Int) < 256
        omega
      have hmid : (Txt.slice y (some 6) (some (-2))).cps.toList = (b64q (row.map Int.ofNat)).map Int.toNat := mid_word (p := [61, 63, 120, 63, 98, 63]) rfl (by rw [← hya]; rfl)
      have hbl := b64q_len (row.map Int.ofNat)
      rw [List.length_map] at hbl
      have hxl : (Txt.slice y (some 6) (some (-2))).length = 4 * ((row.length + 2) / 3) := by
        show (Txt.slice y (some 6) (some (-2))).cps.size = _
        rw [← Array.length_toList, hmid, List.length_map]; omega
      iterate 1 (walk_at "ONE")
      rename Fr _ _ _ _ => F11
      rename (hd.heap_39 w.params).In _ => X11
      first | refine ⟨X11.keeps F11.keep, ?_⟩ | skip
      k_here
      refine' use_call (lawthr (Txt.slice y (some 6) (some (-2))) t9 ((row.length + 2) / 3) (row.map Int.ofNat) hks hmid hxl (by have : row.length ≤ 200 := ha200; omega)) ?uB ?uF ?uX ?uN ?uT ?uK ?ud ?uu ?up
      case uB => k_asm
      case uF => k_asm
      case uX => k_asm
      case uN => k_asm
      case uT => k_asm
      case uK => first | exact rfl | assumption
      case ud => ktr_room
      case uu => ktr_units
      intro D2 us2 c2 h12 tk12 hD2 hus2 F12 N12
      try dsimp only
      iterate 1 (walk_at "ONE")
      have hul : us.length = (List.map (fun c => ((c : Nat) : Int)) ((ws.take i).flatMap (fun a => a.2))).length := hus.length
      have hub : us.length ≤ 1000 := by
        rw [hul, List.length_map]
        exact words_len hwl hw5 i
      have hu2 : us2.length = row.length := by rw [hus2.length, List.length_map]
      have hr0 : 0 < row.length := ha0
      have hr200 : row.length ≤ 200 := ha200
      k_here
      refine' kl_extend (its := us.toArray) (its2 := us2.toArray) (l := us ++ us2) F12 N12 (.head _) ?xe ?xn (Upd.tail ?xa (Upd.tail ?xb (Upd.head ?xc))) ?xd ?xz ?xy ?_
      case xe => rfl
      case xn => rw [Array.length_toList, List.size_toArray, hu2]; omega
      case xa => exact neN (id (Ne.symm (hD2 (lo, _) (.tail _ (.head _)))))
      case xb => exact neN (id (Nat.ne_of_gt l2.1))
      case xc =>
        intro p hp
        rcases List.mem_cons.mp hp with rfl | hp
        · exact Nat.ne_of_gt (lax _ (.head _))
        · exact Nat.ne_of_lt (ll p hp)
      case xd =>
        rw [Bool.and_eq_true]
        rintro ⟨_, h⟩
        unfold Builtin.List.listTooLong at h
        simp only [decide_eq_true_eq, List.size_toArray, hu2] at h
        rw [sizeLine_eq] at h
        have : us.length + row.length > 16777216 := h
        omega
      case xz => rw [Array.length_toList, List.size_toArray, sizeLine_eq]; omega
      case xy => rw [List.size_toArray, List.size_toArray, hu2, sizeLine_eq]; omega
      intro h13 F13 N13
      try dsimp only
      iterate 1 (walk_at "ONE")
      dsimp only
      refine wpAny_execs_nil ?_
      refine Toward.use hqS ?_
      show UnrEnd _ _ _ _ _ _ _
      refine unr_end3 F13 N13 ?sO ⟨.tail _ (.head _), us ++ us2, _, rfl, by assumption, ?sI⟩
      case sO =>
        intro p hp
        rcases List.mem_cons.mp hp with rfl | hp
        · exact Nat.ne_of_lt l2.1
        · rcases List.mem_cons.mp hp with rfl | hp
          · exact Nat.ne_of_lt l2.2.1
          · exact offs l2.2.2 p hp
      case sI =>
        rw [hnext, List.flatMap_append, List.map_append]
        refine hus.append ?_
        simp only [List.flatMap_cons, List.flatMap_nil, List.append_nil]
        exact hus2
    case true =>
      rw [if_pos rfl]
      try dsimp only
      iterate 12 (walk_at "ONE")
      k_here
      k_dflt (refine ListComp_S (F₀ := by k_asm) (by rfl) (by decide) (by rfl) (by decide) (by rfl) ?_)
      iterate 14 (walk_at "ONE")
      rename Fr _ _ _ _ => F9
      rename News _ _ _ _ => N9
      refine' slice_strN_ss (hsz := ?hsz3) (s := ⟨_, _, _, _, _⟩) F9 N9 ?_
      case hsz3 => exact Nat.le_trans hyl (by rw [sizeLine_eq]; decide)
      intro h9 t9 k9 F10 N10
      have hmid : (Txt.slice y (some 6) (some (-2))).cps.toList = qrow row := mid_word (p := [61, 63, 120, 63, 113, 63]) rfl (by rw [← hya]; rfl)
      have hxl : (Txt.slice y (some 6) (some (-2))).length ≤ 100000 := Nat.le_trans (Txt.slice_le y _ _) (Nat.le_trans hyl (by decide))
      iterate 1 (walk_at "ONE")
      rename Fr _ _ _ _ => F11
      rename (hd.heap_39 w.params).In _ => X11
      first | refine ⟨X11.keeps F11.keep, ?_⟩ | skip
      k_here
      refine' use_call (hdec_q (Txt.slice y (some 6) (some (-2))) t9 row ha256 hmid hxl) ?vB ?vF ?vX ?vN ?vT ?vK ?vd ?vu ?vp
      case vB => k_asm
      case vF => k_asm
      case vX => k_asm
      case vN => k_asm
      case vT => k_asm
      case vK => first | exact rfl | assumption
      case vd => ktr_room
      case vu => ktr_units
      intro y2 ty2 h12 tk12 hy2 F12 N12
      try dsimp only
      have hr200 : row.length ≤ 200 := ha200
      have hy2s : y2.cps.size = row.length := by rw [← Array.length_toList, hy2]
      refine ⟨y2, ty2, _, rfl, rfl, F12, N12, by rw [hy2s, sizeLine_eq]; omega, fun g5 => ?_⟩
      refine kcs_rest (fun ch tc I3 oI C oC D m3 ys h tk E' hch hC hxs F N off ne => ?_) ?_
      · simp only [LCg.Off3, and_true] at off
        iterate 10 (walk_at "ONE")
        exact kcf_el rfl rfl rfl
      · intro ys hys
        unfold LCg.FinE
        intro D3 h14 tk14 F14 N14 of3
        try dsimp only
        iterate 1 (walk_at "ONE")
        have hul : us.length = (List.map (fun c => ((c : Nat) : Int)) ((ws.take i).flatMap (fun a => a.2))).length := hus.length
        have hub : us.length ≤ 1000 := by
          rw [hul, List.length_map]
          exact words_len hwl hw5 i
        have hu2 : ys.length = row.length := by rw [hys.length, List.length_map, hy2]
        have hr0 : 0 < row.length := ha0
        have hr200 : row.length ≤ 200 := ha200
        k_here
        refine' kl_extend (its := us.toArray) (its2 := ys.toArray) (l := us ++ ys) F14 N14 (show (D3, PySem.W.listOf ys.toArray ys.length) ∈ _ from .head _) ?yxe ?yxn (Upd.tail ?yxa (Upd.tail ?yxb (Upd.head ?yxc))) ?yxd ?yxz ?yxy ?_
        case yxe => rfl
        case yxn => rw [Array.length_toList, List.size_toArray, hu2]; omega
        case yxa => exact neN (id (Ne.symm of3.2.1))
        case yxb => exact neN (id (Nat.ne_of_gt l2.1))
        case yxc =>
          intro p hp
          rcases List.mem_cons.mp hp with rfl | hp
          · exact Nat.ne_of_gt (lax _ (.head _))
          · exact Nat.ne_of_lt (ll p hp)
        case yxd =>
          rw [Bool.and_eq_true]
          rintro ⟨_, h⟩
          unfold Builtin.List.listTooLong at h
          simp only [decide_eq_true_eq, List.size_toArray, hu2] at h
          rw [sizeLine_eq] at h
          have : us.length + row.length > 16777216 := h
          omega
        case yxz => rw [Array.length_toList, List.size_toArray, sizeLine_eq]; omega
        case yxy => rw [List.size_toArray, List.size_toArray, hu2, sizeLine_eq]; omega
        intro h15 F15 N15
        try dsimp only
        iterate 1 (walk_at "ONE")
        dsimp only
        refine wpAny_execs_nil ?_
        refine Toward.use hqS ?_
        show UnrEnd _ _ _ _ _ _ _
        refine unr_end3 F15 N15 ?ysO ⟨.tail _ (.head _), us ++ ys, _, rfl, by assumption, ?ysI⟩
        case ysO =>
          intro p hp
          rcases List.mem_cons.mp hp with rfl | hp
          · exact Nat.ne_of_lt l2.1
          · rcases List.mem_cons.mp hp with rfl | hp
            · exact Nat.ne_of_lt l2.2.1
            · exact offs l2.2.2 p hp
        case ysI =>
          rw [hnext, List.flatMap_append, List.map_append]
          refine hus.append ?_
          simp only [List.flatMap_cons, List.flatMap_nil, List.append_nil]
          rw [hy2] at hys; exact hys
end
-- Glue1
section
theorem wjoin_snoc : ∀ (W : List (Bool × List Nat)) (a : Bool × List Nat), W ≠ [] → wjoin (W ++ [a]) = wjoin W ++ 32 :: wtext a
  | [], _, h => absurd rfl h
  | [b], a, _ => rfl
  | b :: d :: r, a, _ => by
    show wtext b ++ 32 :: wjoin ((d :: r) ++ [a]) = (wtext b ++ 32 :: wjoin (d :: r)) ++ 32 :: wtext a
    rw [wjoin_snoc (d :: r) a (by simp)]
    simp
theorem rowP_app (bs : List (Array UInt8 × Tok)) {s e : Nat} (h : s ≤ e) : rowP bs 0 s ++ rowP bs s e = rowP bs 0 e := by
  unfold rowP
  rw [List.drop_zero, Nat.sub_zero, Nat.sub_zero, ← List.flatMap_append]
  congr 1
  rw [show e = s + (e - s) by omega, List.take_add, show s + (e - s) - s = e - s by omega]
theorem rowP_lt (bs : List (Array UInt8 × Tok)) (s e : Nat) : ∀ c ∈ rowP bs s e, c < 256 := by
  intro c hc
  unfold rowP octsN at hc
  obtain ⟨b, _, hc⟩ := List.mem_flatMap.mp hc
  obtain ⟨u, _, rfl⟩ := List.mem_map.mp hc
  exact u.toNat_lt
theorem rowP_size {bs : List (Array UInt8 × Tok)} {s e : Nat} (hz : ∀ b ∈ bs, 0 < b.1.size ∧ b.1.size ≤ 40) (hs : s < e) (he : e ≤ bs.length) (h5 : bs.length ≤ 5) : 0 < (rowP bs s e).length ∧ (rowP bs s e).length ≤ 200 := by
  have h := row_size (x := (((bs.drop s).take (e - s)).flatMap (fun b => b.1.toList)).toArray) (by simp) hz hs he h5
  have e1 : (rowP bs s e).length = ((((bs.drop s).take (e - s)).flatMap (fun b => b.1.toList)).toArray).size := by
    unfold rowP octsN
    simp only [List.length_flatMap, List.length_map, List.size_toArray]
  rw [e1]; exact h
theorem chain_words {bs : List (Array UInt8 × Tok)} {ws : List (Str × Tok)} (hc : Chain bs ws) (h5 : bs.length ≤ 5) (hz : ∀ b ∈ bs, 0 < b.1.size ∧ b.1.size ≤ 40) : ∀ n e x t, e ≤ n → 1 ≤ e → e ≤ bs.length → ws[e]? = some (x, t) →
    ∃ W : List (Bool × List Nat), W ≠ [] ∧ W.length ≤ e ∧ x.cps.toList = wjoin W ∧ W.flatMap (fun a => a.2) = rowP bs 0 e ∧ (∀ a ∈ W, ∀ c ∈ a.2, c < 256) ∧ ∀ a ∈ W, 0 < a.2.length ∧ a.2.length ≤ 200 := by
  intro n
  induction n with
  | zero => intro e x t h1 h2; omega
  | succ n ih =>
    intro e x t hen he heb hx
    have hb := hc.2.1 e x t he hx
    obtain ⟨s, k, hs, hcx⟩ := mem_cands.mp hb.1
    have hrow := rowP_size hz hs heb h5
    have hw : cand (ws.take e) bs e s k = aheadC (ws.take e) s ++ wtext (k, rowP bs s e) := rfl
    rw [hw] at hcx
    rcases Nat.eq_zero_or_pos s with rfl | hpos
    · refine ⟨[(k, rowP bs 0 e)], by simp, by simpa using he, by rw [hcx]; rfl, by simp, ?_, ?_⟩
      · intro a ha; rw [List.mem_singleton.mp ha]; exact rowP_lt bs 0 e
      · intro a ha; rw [List.mem_singleton.mp ha]; exact hrow
    · have hel := (List.getElem?_eq_some_iff.mp hx).1
      obtain ⟨⟨y, ty⟩, hy⟩ : ∃ p, ws[s]? = some p := ⟨_, List.getElem?_eq_getElem (by omega)⟩
      obtain ⟨W, h1, h2, h3, h4, h6, h7⟩ := ih s y ty (by omega) hpos (by omega) hy
      refine ⟨W ++ [(k, rowP bs s e)], by simp, ?_, ?_, ?_, ?_, ?_⟩
      · rw [List.length_append]; simp only [List.length_cons, List.length_nil]; omega
      · rw [hcx, wjoin_snoc W _ h1, ← h3]
        unfold aheadC
        rw [if_neg (by omega), List.getElem?_take, if_pos hs, hy]
        simp
      · rw [List.flatMap_append, h4]
        simp only [List.flatMap_cons, List.flatMap_nil, List.append_nil]
        exact rowP_app bs (by omega)
      · intro a ha
        rcases List.mem_append.mp ha with ha | ha
        · exact h6 a ha
        · rw [List.mem_singleton.mp ha]; exact rowP_lt bs s e
      · intro a ha
        rcases List.mem_append.mp ha with ha | ha
        · exact h7 a ha
        · rw [List.mem_singleton.mp ha]; exact hrow
end
-- Glue2
section
structure Parts (bs : List (Array UInt8 × Tok)) (cs rs : List Int) : Prop where
  len : bs.length = 5
  size : ∀ b ∈ bs, 0 < b.1.size ∧ b.1.size ≤ 40
  at_ : ∀ i b, bs[i]? = some b → ∃ o n, octsN b.1 = List.replicate n o ∧ rs.getD i 0 = (n : Int) ∧ cs.getD i 0 = ((qcps o).length : Int)
  rnn : ∀ i, 0 ≤ rs.getD i 0 ∧ rs.getD i 0 ≤ 40
  cnn : ∀ i, 0 ≤ cs.getD i 0 ∧ cs.getD i 0 ≤ 3
theorem qrow_rep (o : Nat) : ∀ n, (qrow (List.replicate n o)).length = (qcps o).length * n
  | 0 => rfl
  | n + 1 => by
    rw [List.replicate_succ]
    show (qcps o ++ qrow (List.replicate n o)).length = _
    rw [List.length_append, qrow_rep o n, Nat.mul_succ]; omega
theorem qrow_app (a b : List Nat) : qrow (a ++ b) = qrow a ++ qrow b := by unfold qrow; rw [List.flatMap_append]
theorem rowP_succ {bs : List (Array UInt8 × Tok)} {s e : Nat} {b : Array UInt8 × Tok} (h : s ≤ e) (hb : bs[e]? = some b) : rowP bs s (e + 1) = rowP bs s e ++ octsN b.1 := by
  unfold rowP
  rw [show e + 1 - s = (e - s) + 1 by omega, List.take_add_one, List.getElem?_drop, show s + (e - s) = e by omega, hb, List.flatMap_append]
  simp
theorem span_lens {bs : List (Array UInt8 × Tok)} {cs rs : List Int} (P : Parts bs cs rs) (s : Nat) : ∀ k, s + k ≤ 5 → ((rowP bs s (s + k)).length : Int) = span (fun i => rs.getD i 0) s (s + k) ∧ ((qrow (rowP bs s (s + k))).length : Int) = span (fun i => cs.getD i 0 * rs.getD i 0) s (s + k) := by
  intro k
  induction k with
  | zero =>
    intro _
    have e : rowP bs s (s + 0) = [] := by unfold rowP; rw [show s + 0 - s = 0 by omega, List.take_zero]; rfl
    rw [e, Nat.add_zero, span_self, span_self]
    exact ⟨rfl, rfl⟩
  | succ k ih =>
    intro h
    obtain ⟨i1, i2⟩ := ih (by omega)
    obtain ⟨b, hb⟩ : ∃ b, bs[s + k]? = some b := ⟨_, List.getElem?_eq_getElem (by rw [P.len]; omega)⟩
    obtain ⟨o, n, h1, h2, h3⟩ := P.at_ _ _ hb
    rw [← Nat.add_assoc, rowP_succ (by omega) hb, span_succ _ (by omega), span_succ _ (by omega), qrow_app, List.length_append, List.length_append, h1, qrow_rep, List.length_replicate, ← i1, ← i2, h2, h3]
    constructor
    · push_cast; rfl
    · push_cast; rfl
theorem wtext_wlen {bs : List (Array UInt8 × Tok)} {cs rs : List Int} (P : Parts bs cs rs) {s e : Nat} (k : Bool) (hs : s ≤ e) (he : e ≤ 5) : ((wtext (k, rowP bs s e)).length : Int) = wlen (fun i => cs.getD i 0) (fun i => rs.getD i 0) k s e := by
  obtain ⟨h1, h2⟩ := span_lens P s (e - s) (by omega)
  rw [show s + (e - s) = e by omega] at h1 h2
  unfold wtext wlen
  cases k
  · rw [if_neg Bool.false_ne_true, if_neg Bool.false_ne_true]
    unfold bword
    have hb := b64q_len ((rowP bs s e).map Int.ofNat)
    rw [List.length_map] at hb
    simp only [List.length_append, List.length_cons, List.length_nil, List.length_map]
    push_cast
    rw [hb, h1]; omega
  · rw [if_pos rfl, if_pos rfl]
    unfold qword
    simp only [List.length_append, List.length_cons, List.length_nil]
    push_cast
    rw [h2]; omega
theorem span_bound {cs rs : List Int} {bs : List (Array UInt8 × Tok)} (P : Parts bs cs rs) : ∀ e, span (fun i => cs.getD i 0 * rs.getD i 0) 0 e ≤ 120 * (e : Int)
  | 0 => by simp [span]
  | e + 1 => by
    have h := span_bound P e
    rw [span_succ _ (Nat.zero_le e)]
    have h1 := P.cnn e; have h2 := P.rnn e
    have h3 : cs.getD e 0 * rs.getD e 0 ≤ 3 * 40 := Int.mul_le_mul h1.2 h2.2 h2.1 (by decide)
    push_cast
    show _ + cs.getD e 0 * rs.getD e 0 ≤ _
    omega
theorem chain_lens {bs : List (Array UInt8 × Tok)} {ws : List (Str × Tok)} {cs rs : List Int} (P : Parts bs cs rs) (hc : Chain bs ws) (hl : ws.length = 6) : ∀ e x t, 1 ≤ e → e ≤ 5 → ws[e]? = some (x, t) → (x.length : Int) = (lenW cs rs e).t := by
  obtain ⟨⟨e0, t0, h0, h00⟩, hch, _⟩ := hc
  have hlen : ∀ (y : Str), y.cps.toList.length = y.length := fun y => Array.length_toList
  have key := best_is (fun i => cs.getD i 0) (fun i => rs.getD i 0) (fun i => (P.rnn i).1) (fun i => Int.mul_nonneg (P.cnn i).1 (P.rnn i).1) 5
    (fun e he => by have := span_bound P e; omega) (fun e => match ws[e]? with | some p => (p.1.length : Int) | none => 0) (by
      show (match ws[0]? with | some p => (p.1.length : Int) | none => 0) = 0
      rw [h0]
      show (e0.length : Int) = 0
      rw [← hlen, h00]; rfl) (fun e he1 he5 => by
      obtain ⟨⟨x, t⟩, hx⟩ : ∃ p, ws[e]? = some p := ⟨_, List.getElem?_eq_getElem (by omega)⟩
      have hb := hch e x t (by omega) hx
      have cl : ∀ s k, s < e → ((cand (ws.take e) bs e s k).length : Int) = (if s = 0 then 0 else (match ws[s]? with | some p => (p.1.length : Int) | none => 0) + 1) + wlen (fun i => cs.getD i 0) (fun i => rs.getD i 0) k s e := by
        intro s k hs
        have hw : cand (ws.take e) bs e s k = aheadC (ws.take e) s ++ wtext (k, rowP bs s e) := rfl
        rw [hw, List.length_append]
        push_cast
        rw [wtext_wlen P k (by omega) he5]
        congr 1
        unfold aheadC
        by_cases h : s = 0
        · rw [if_pos h, if_pos h]; rfl
        · rw [if_neg h, if_neg h, List.getElem?_take, if_pos hs]
          obtain ⟨⟨y, ty⟩, hy⟩ : ∃ p, ws[s]? = some p := ⟨_, List.getElem?_eq_getElem (by omega)⟩
          rw [hy, List.length_append]
          show ((y.cps.toList.length + 1 : Nat) : Int) = (y.length : Int) + 1
          rw [hlen]; push_cast; rfl
      show (∀ s k, s < e → (match ws[e]? with | some p => (p.1.length : Int) | none => 0) ≤ _) ∧ _
      rw [hx]
      refine ⟨fun s k hs => ?_, ?_⟩
      · rw [← cl s k hs]
        have := hb.2.1 _ (mem_cands.mpr ⟨s, k, hs, rfl⟩)
        exact Int.ofNat_le.mpr this
      · obtain ⟨s, k, hs, hcx⟩ := mem_cands.mp hb.1
        refine ⟨s, k, hs, ?_⟩
        show (x.length : Int) = _
        rw [← cl s k hs, ← hcx, hlen])
  intro e x t h1 h5 hx
  have := key e (by omega) h5
  simp only [hx] at this
  exact this
end
-- Lawe
section
theorem canLay_strs : ∀ ss : List Str, (∀ x ∈ ss, PyData.strOk x = true) → PyData.canLayAll0 (ss.map PyData.str) = true
  | [], _ => rfl
  | x :: r, h => by simp [PyData.canLayAll0, PyData.canLay0, h x (.head _), canLay_strs r fun y hy => h y (.tail _ hy)]
theorem depth_strs : ∀ ss : List Str, PyData.depthAll (ss.map PyData.str) = 0
  | [] => rfl
  | _ :: r => by simp [PyData.depthAll, PyData.depth, depth_strs r]
theorem shaped_strs (ss : List Str) (h : ∀ x ∈ ss, PyData.strOk x = true) : SeqAt.shaped (.list (ss.map PyData.str)) = true := by
  simp [SeqAt.shaped, PyData.canLay0, PyData.depth, canLay_strs ss h, depth_strs]
theorem same_strs : ∀ ss : List Str, PySem.Spec.sameAll (ss.map PyData.str) (ss.map PyData.str) = true
  | [] => by simp [PySem.Spec.sameAll]
  | a :: r => by simp [PySem.Spec.sameAll, PySem.Spec.same, same_strs r]
theorem strOk_256 {x : Str} (h : ∀ c ∈ x.cps.toList, c < 256) : PyData.strOk x = true := by
  unfold PyData.strOk
  rw [Array.all_eq_true_iff_forall_mem]
  intro c hc
  have := h c (Array.mem_toList_iff.mpr hc)
  exact decide_eq_true (by omega)
theorem str_ext {x y : Str} (h : x.cps.toList = y.cps.toList) : x = y := by
  cases x with
  | mk a => cases y with
    | mk b =>
      have : a = b := Array.toList_inj.mp h
      rw [this]
section
variable {prog : Program} {w : World} {A : Around} {E : Value → Shared → Prop} {s : Shared} {h₀ : Heap} {L : Addr} {m : Str → Option Value} {env : Env}
theorem ne_strs {a b : Addr} {xs ys : List Value} {ss : List Str} {Q : Value → Shared → Prop} (ha : s.heap.IsList a xs.toArray) (hb : s.heap.IsList b ys.toArray) (hi : StrsAre xs ss) (hj : StrsAre ys ss) (hok : ∀ x ∈ ss, ∀ c ∈ x.cps.toList, c < 256) (hu : A.units + 64 < cLine) (h : Q (.bool false) s) :
    wpAny (model prog w) A (compareOp .NotEq (.ref a) (.ref b)) Q E s :=
  ne_dataH_same (reads_newData ha hi.carried) (reads_newData hb hj.carried) (shaped_strs _ fun x hx => strOk_256 (hok x hx)) (shaped_strs _ fun x hx => strOk_256 (hok x hx)) hu (SeqAt.noMix_of_shape (.list .str) rfl _ _ (list_map_has fun _ => rfl) (list_map_has fun _ => rfl))
    (by rw [show PySem.Spec.same (.list (ss.map PyData.str)) (.list (ss.map PyData.str)) = true from (by simp only [PySem.Spec.same]; exact same_strs ss)]; exact h)
theorem kg_rest {elt : PySem.Expr} {x : Str} {scope : Scope} {cl : List (Str × Addr)} {S : List (Addr × Obj) → Prop} {P : Nat → Value → Prop} {Fin : List Value → List (Addr × Obj) → Prop} {news : List (Addr × Obj)} {n : Nat} (R : Nat → Value → Prop)
    (turn : ∀ i v I oI C oC D m₂ ys h tk (E' : Value → Shared → Prop), i < n → P i v → LCg.NsObj oC m₂ → m₂ x = some v → Fr h₀ L h m → News h₀ L h ((I, oI) :: (C, oC) :: (D, LCg.lst ys) :: news) → LCg.Off3 I C D news → ((@Ne Nat I C) ∧ (@Ne Nat I D) ∧ (@Ne Nat C D)) →
      wpAny (model prog w) A (eval elt (compEnvC scope cl C env)) (LCg.CompEnd h₀ L m { s with heap := h, toks := tk } I oI C oC D (LCg.lst ys) S (fun y news' => news' = news ∧ R i y)) E' { s with heap := h, toks := tk })
    (fin : ∀ ys, ys.length = n → (∀ (i : Nat) (y : Value), ys[i]? = some y → R i y) → Fin ys news) : LCg.CompRest prog w A h₀ L m env elt x scope cl s S P Fin n 0 [] news := by
  have key : ∀ (j i : Nat) (ys : List Value), i + j = n → ys.length = i → (∀ (i : Nat) (y : Value), ys[i]? = some y → R i y) → LCg.CompRest prog w A h₀ L m env elt x scope cl s S P Fin j i ys news := by
    intro j
    induction j with
    | zero =>
      intro i ys hi hl hy
      exact LCg.CompRest.zero (fin ys (by omega) hy)
    | succ j ih =>
      intro i ys hi hl hy
      refine LCg.CompRest.succ ?_
      intro v I oI C oC D m₂ h tk E' hv hC hx F N off ne
      refine wpAny_mono (turn i v I oI C oC D m₂ ys h tk E' (by omega) hv hC hx F N off ne) (fun y s₂ hq => ?_) fun _ _ e => e
      obtain ⟨h', tk', nw, e, F', N', off', hS, hn, hr⟩ := hq
      rw [hn] at N' off' hS
      refine ⟨h', tk', news, e, F', N', off', hS, ih (i + 1) _ (by omega) (by rw [List.length_append, hl]; rfl) fun k z hz => ?_⟩
      by_cases hk : k < ys.length
      · rw [List.getElem?_append_left hk] at hz
        exact hy k z hz
      · have hk2 := (List.getElem?_eq_some_iff.mp hz).1
        rw [List.length_append, List.length_singleton] at hk2
        obtain rfl : k = i := by omega
        rw [List.getElem?_append_right (by omega), hl, Nat.sub_self] at hz
        cases hz
        exact hr
  exact key n 0 [] (by omega) rfl fun i y h => by simp at h
theorem foldl_rep (v : Value) : ∀ (n : Nat) (acc : Array Value), List.foldl (fun x1 x2 => x1 ++ x2) acc (List.replicate n #[v]) = acc ++ (List.replicate n v).toArray
  | 0, acc => by simp
  | n + 1, acc => by
    rw [List.replicate_succ, List.foldl_cons, foldl_rep v n]
    apply Array.toList_inj.mp
    simp [List.replicate_succ]
theorem mul_one {l : Addr} {v : Value} {k : Nat} {x : Int} {u : Tok} {news : List (Addr × Obj)} {Q : Value → Shared → Prop} (F : Fr h₀ L s.heap m) (N : News h₀ L s.heap news) (hl : (l, PySem.W.listOf #[v] k) ∈ news) (hlo : 0 ≤ x) (hhi : x ≤ 1000)
    (h : ∀ D h', Fr h₀ L h' m → News h₀ L h' ((D, PySem.W.listOf (List.replicate x.toNat v).toArray 0) :: news) → Q (.ref D) { s with heap := h' }) :
    wpAny (model prog w) A (binaryOp .Mult (.ref l) (.int x u)) Q E s := by
  refine mul_list F N (News.get N hl) (by omega) (by omega) (by simp only [List.size_toArray, List.length_cons, List.length_nil]; omega) fun h' F' N' => h _ h' F' ?_
  rw [if_neg (by simp), foldl_rep, Array.empty_append] at N'
  exact N'
theorem ints_rep (o : Int) (t : Tok) : ∀ n, IntsAre (List.replicate n (Value.int o t)) (List.replicate n o)
  | 0 => .nil
  | n + 1 => .cons _ _ (ints_rep o t n)
theorem bytes_rep {D : Addr} {o : Int} {t : Tok} {n : Nat} {k : Nat} {news : List (Addr × Obj)} {Q : Value → Shared → Prop} (hh : A.handled = none) (F : Fr h₀ L s.heap m) (N : News h₀ L s.heap news) (hl : (D, PySem.W.listOf (List.replicate n (Value.int o t)).toArray k) ∈ news) (ho : 0 ≤ o ∧ o < 256) (hn : n ≤ 1000)
    (h : ∀ h' t' tk, Fr h₀ L h' m → News h₀ L h' news → Q (.bytes (byteArr (List.replicate n o)) t') { s with heap := h', toks := tk }) :
    wpAny (model prog w) A (call (.type "bytes") [.ref D]) Q E s :=
  call_bytes_ints (News.isList N hl) (ints_rep o t n) (fun z hz => by rw [List.eq_of_mem_replicate hz]; exact ho) (by rw [List.length_replicate, sizeLine_eq]; omega) hh fun h' t' k hk => h h' t' k (F.keptAll hk) (N.grown hk)
end
theorem foldl_cpsR (a : List Nat) : ∀ (n : Nat) (acc : Array Nat), (List.foldl (fun x1 x2 => x1 ++ x2) acc (List.replicate n a.toArray)).toList = acc.toList ++ (List.replicate n a).flatten
  | 0, acc => by simp
  | n + 1, acc => by
    rw [List.replicate_succ, List.foldl_cons, foldl_cpsR a n]
    simp [List.replicate_succ]
theorem cps_mul (x : Str) (n : Int) (h : 1 ≤ n) : (Txt.mul x n).cps.toList = (List.replicate n.toNat x.cps.toList).flatten := by
  unfold Txt.mul
  rw [if_neg (by omega)]
  split
  · rename_i h2
    rcases Bool.or_eq_true_iff.mp h2 with h3 | h3
    · have : n = 1 := by simpa using h3
      subst this
      simp
    · have h4 : x.cps.size = 0 := by simpa [Str.length] using h3
      have : x.cps.toList = [] := by simpa using h4
      rw [this]
      simp
  · have := foldl_cpsR x.cps.toList n.toNat #[]
    rw [Array.toArray_toList] at this
    simpa using this
theorem qrow_reps (o n : Nat) : qrow (List.replicate n o) = (List.replicate n (qcps o)).flatten := by
  induction n with
  | zero => rfl
  | succ n ih => rw [List.replicate_succ, List.replicate_succ, List.flatten_cons, ← ih]; rfl
theorem octs_rep (o n : Nat) (h : o < 256) : octsN (byteArr (List.replicate n (o : Int))) = List.replicate n o := by
  unfold octsN byteArr
  rw [List.map_replicate, List.map_replicate]
  congr 1
  show ((o : Int).toNat.toUInt8).toNat = o
  rw [Int.toNat_natCast, UInt8.toNat_ofNat']
  omega
end
-- Lawp
section
theorem ints_of_all : ∀ (vs : List Value), (∀ v ∈ vs, ∃ a t, v = .int a t) → ∃ ns, IntsAre vs ns
  | [], _ => ⟨[], .nil⟩
  | v :: vs, h => by
    obtain ⟨ns, hn⟩ := ints_of_all vs fun u hu => h u (.tail _ hu)
    obtain ⟨a, t, rfl⟩ := h v (.head _)
    exact ⟨a :: ns, .cons a t hn⟩
theorem ints_all : ∀ {vs : List Value} {ns : List Int}, IntsAre vs ns → ∀ v ∈ vs, ∃ a t, v = .int a t
  | _, _, .nil, _, h => nomatch h
  | _, _, .cons n t hi, v, h => by
    rcases List.mem_cons.mp h with rfl | h
    · exact ⟨_, _, rfl⟩
    · exact ints_all hi v h
theorem slicePick_ints {its : Array Value} {ns : List Int} (hi : IntsAre its.toList ns) (lo hi' st : Option Int) : ∃ ms, IntsAre (slicePick its lo hi' st).toList ms := by
  refine ints_of_all _ fun v hv => ?_
  unfold slicePick at hv
  simp only [List.mem_filterMap] at hv
  obtain ⟨i, _, e⟩ := hv
  exact ints_all hi v (Array.mem_toList_iff.mpr (Array.mem_of_getElem? e))
section
variable {prog : Program} {w : World} {A : Around} {E : Value → Shared → Prop} {s : Shared} {h₀ : Heap} {L l : Addr} {m : Str → Option Value} {news : List (Addr × Obj)} {value slice : PySem.Expr} {vs : List Value} {ns : List Int} {vl vu vk : Value} {lo hi st : Option Int} {ops : List Value} {Q : Value → Shared → Prop}
theorem slice_step (F : Fr h₀ L s.heap m) (N : News h₀ L s.heap news) (hl : s.heap.IsList l vs.toArray) (pl : IsPart vl lo) (pu : IsPart vu hi) (pk : IsPart vk st) (h0 : st ≠ some 0) (hii : IntsAre vs ns)
    (h : ∀ D ws ms h', IntsAre ws ms → Fr h₀ L h' m → News h₀ L h' ((D, PySem.W.listOf ws.toArray 0) :: news) → (∀ p ∈ news, p.1 < D) → Q (.ref D) { s with heap := h' })
    (hs : subscripted slice false (.ref l) (.ref s.heap.objs.size) = operate ops (getItem (.ref l) (.ref s.heap.objs.size))) (ht : ∀ r, letTemporaryGo value (.ref l) r = pure ()) (hz : vs.toArray.size ≤ sizeLine) :
    wpAny (model prog w) A (subscriptTail value slice (.ref l) (.ref s.heap.objs.size)) Q E { s with heap := s.heap.push { cls := .type "slice", data := .fields #[vl, vu, vk] } } := by
  obtain ⟨ms, hm⟩ := slicePick_ints (its := vs.toArray) hii lo hi st
  refine kmk_slice3_lit F N hl pl pu pk h0 rfl (fun D h' F' N' l1 => h D _ ms h' hm F' N' l1) hs ht hz
end
theorem cell_gen {o : Obj} {z : Int} {t : Tok} (h : o.data = .cell (some (.int z t))) : ∃ ff : Int, o.data = .cell (some (.int ff t)) := ⟨z, h⟩
theorem ints5v {ys : List Value} {a b c d e : Int} (h : IntsAre ys [a, b, c, d, e]) : ∃ t0 t1 t2 t3 t4, ys = [Value.int a t0, .int b t1, .int c t2, .int d t3, .int e t4] := by
  obtain ⟨t0, r, rfl, h1⟩ := ints_cons h
  obtain ⟨t1, r, rfl, h2⟩ := ints_cons h1
  obtain ⟨t2, r, rfl, h3⟩ := ints_cons h2
  obtain ⟨t3, r, rfl, h4⟩ := ints_cons h3
  obtain ⟨t4, r, rfl, h5⟩ := ints_cons h4
  cases h5
  exact ⟨t0, t1, t2, t3, t4, rfl⟩
theorem ints5 {ys : List Value} {g : Int → Int} (h : IntsAre ys ((rangeKs 0 5).map g)) : ∃ t0 t1 t2 t3 t4, ys = [Value.int (g 0) t0, .int (g 1) t1, .int (g 2) t2, .int (g 3) t3, .int (g 4) t4] := ints5v (show IntsAre ys [g 0, g 1, g 2, g 3, g 4] from h)
def octF (k : Int) : Int := ([65, 48, 33, 32, 61, 233, 0, 10, 95, 46] : List Int).getD k.toNat 0
def costF (k : Int) : Int := if k < 4 then 1 else 3
theorem dig_gen (f : Int → Int) (a : Int → Int) (h : ∀ k, f k = Int.fmod (a k) 10) : ∃ d0 d1 d2 d3 d4 : Int, f 0 = d0 ∧ f 1 = d1 ∧ f 2 = d2 ∧ f 3 = d3 ∧ f 4 = d4 ∧ ∀ d ∈ [d0, d1, d2, d3, d4], 0 ≤ d ∧ d < 10 :=
  ⟨_, _, _, _, _, rfl, rfl, rfl, rfl, rfl, fun d hd => by
    simp only [List.mem_cons, List.not_mem_nil, or_false] at hd
    rcases hd with rfl | rfl | rfl | rfl | rfl <;> rw [h] <;> exact ⟨fmod_lo _ (by decide), fmod_hi _ (by decide)⟩⟩
theorem run_gen (f : Int → Int) (a : Int → Int) (h : ∀ k, f k = 1 + 4 * Int.fmod (a k) 10) : ∃ d0 d1 d2 d3 d4 : Int, f 0 = d0 ∧ f 1 = d1 ∧ f 2 = d2 ∧ f 3 = d3 ∧ f 4 = d4 ∧ ∀ d ∈ [d0, d1, d2, d3, d4], 1 ≤ d ∧ d ≤ 37 :=
  ⟨_, _, _, _, _, rfl, rfl, rfl, rfl, rfl, fun d hd => by
    simp only [List.mem_cons, List.not_mem_nil, or_false] at hd
    have lo := fun k => fmod_lo (a k) (n := 10) (by decide)
    have hi := fun k => fmod_hi (a k) (n := 10) (by decide)
    rcases hd with rfl | rfl | rfl | rfl | rfl <;> rw [h]
    · have := lo 0; have := hi 0; omega
    · have := lo 1; have := hi 1; omega
    · have := lo 2; have := hi 2; omega
    · have := lo 3; have := hi 3; omega
    · have := lo 4; have := hi 4; omega⟩
theorem ints5l {ys : List Value} {g : Int → Int} {a b c d e : Int} (h : IntsAre ys ([a, b, c, d, e].map g)) : ∃ t0 t1 t2 t3 t4, ys = [Value.int (g a) t0, .int (g b) t1, .int (g c) t2, .int (g d) t3, .int (g e) t4] := ints5v h
theorem get5 {f : Int → Int} {d0 d1 d2 d3 d4 : Int} {p0 p1 p2 p3 p4 : Tok} {i : Nat} {x : Value} (h : [Value.int (f d0) p0, .int (f d1) p1, .int (f d2) p2, .int (f d3) p3, .int (f d4) p4][i]? = some x) : ∃ d t, [d0, d1, d2, d3, d4][i]? = some d ∧ x = .int (f d) t := by
  match i, h with
  | 0, h => cases h; exact ⟨_, _, rfl, rfl⟩
  | 1, h => cases h; exact ⟨_, _, rfl, rfl⟩
  | 2, h => cases h; exact ⟨_, _, rfl, rfl⟩
  | 3, h => cases h; exact ⟨_, _, rfl, rfl⟩
  | 4, h => cases h; exact ⟨_, _, rfl, rfl⟩
  | i + 5, h => simp at h
theorem mul_len {z k : Nat} {n : Int} (hk : k ≤ 3) (hn : 1 ≤ n ∧ n ≤ 37) (e : (z : Int) = (k : Int) * n) : z ≤ 200 := by
  have h : k = 0 ∨ k = 1 ∨ k = 2 ∨ k = 3 := by omega
  rcases h with rfl | rfl | rfl | rfl <;> omega
def codeF (k : Int) : Str := ([Str.ofString "A", Str.ofString "0", Str.ofString "!", Str.ofString "_", Str.ofString "=3D", Str.ofString "=E9", Str.ofString "=00", Str.ofString "=0A", Str.ofString "=5F", Str.ofString "=2E"] : List Str).getD k.toNat Str.empty
theorem dig_fact {k : Int} (h : 0 ≤ k ∧ k < 10) : (0 ≤ octF k ∧ octF k < 256) ∧ costF k = ((qcps (octF k).toNat).length : Int) ∧ (codeF k).cps.toList = qcps (octF k).toNat ∧ (codeF k).length ≤ 3 := by
  have hk : k = 0 ∨ k = 1 ∨ k = 2 ∨ k = 3 ∨ k = 4 ∨ k = 5 ∨ k = 6 ∨ k = 7 ∨ k = 8 ∨ k = 9 := by omega
  rcases hk with rfl | rfl | rfl | rfl | rfl | rfl | rfl | rfl | rfl | rfl <;> exact ⟨by decide +kernel, by decide +kernel, by decide +kernel, by decide +kernel⟩
def PartR (ds ns : List Int) (i : Nat) (r : Value) : Prop := ∃ d n t, ds[i]? = some d ∧ ns[i]? = some n ∧ r = .bytes (byteArr (List.replicate n.toNat (octF d))) t
def unB : Value → Array UInt8 × Tok
  | .bytes b t => (b, t)
  | _ => (#[], 0)
theorem parts_of {ds ns : List Int} {ys : List Value} (h : ∀ (i : Nat) (y : Value), ys[i]? = some y → PartR ds ns i y) : ∃ bs : List (Array UInt8 × Tok), ys = bs.map bytV ∧ bs.length = ys.length ∧ ∀ (i : Nat) b, bs[i]? = some b → ∃ d n, ds[i]? = some d ∧ ns[i]? = some n ∧ b.1 = byteArr (List.replicate n.toNat (octF d)) := by
  refine ⟨ys.map unB, ?_, by rw [List.length_map], fun i b hb => ?_⟩
  · rw [List.map_map]
    refine (List.map_id ys).symm.trans (List.map_congr_left fun y hy => ?_)
    obtain ⟨i, hi, e⟩ := List.mem_iff_getElem.mp hy
    obtain ⟨d, n, t, _, _, rfl⟩ := h i y (by rw [List.getElem?_eq_getElem hi, e])
    rfl
  · rw [List.getElem?_map] at hb
    obtain ⟨y, hy, rfl⟩ := Option.map_eq_some_iff.mp hb
    obtain ⟨d, n, t, h1, h2, rfl⟩ := h i y hy
    exact ⟨d, n, h1, h2, rfl⟩
theorem parts_ok {ds ns : List Int} {bs : List (Array UInt8 × Tok)} (hl : bs.length = 5) (hb : ∀ (i : Nat) b, bs[i]? = some b → ∃ d n, ds[i]? = some d ∧ ns[i]? = some n ∧ b.1 = byteArr (List.replicate n.toNat (octF d)))
    (hd : ∀ d ∈ ds, 0 ≤ d ∧ d < 10) (hn : ∀ n ∈ ns, 1 ≤ n ∧ n ≤ 37) : Parts bs (ds.map costF) ns := by
  refine ⟨hl, fun b hb' => ?_, fun i b hb' => ?_, fun i => ?_, fun i => ?_⟩
  · obtain ⟨i, hi, e⟩ := List.mem_iff_getElem.mp hb'
    obtain ⟨d, n, _, h2, h3⟩ := hb i b (by rw [List.getElem?_eq_getElem hi, e])
    have := hn n (List.mem_of_getElem? h2)
    rw [h3, byteArr_size, List.length_replicate]
    omega
  · obtain ⟨d, n, h1, h2, h3⟩ := hb i b hb'
    obtain ⟨⟨o0, o1⟩, f2, _⟩ := dig_fact (hd d (List.mem_of_getElem? h1))
    have hn' := hn n (List.mem_of_getElem? h2)
    refine ⟨(octF d).toNat, n.toNat, ?_, ?_, ?_⟩
    · rw [h3]
      have e : octF d = (((octF d).toNat : Nat) : Int) := by omega
      rw [e, octs_rep _ _ (by omega), Int.toNat_natCast]
    · rw [List.getD_eq_getElem?_getD, h2]
      show n = _
      omega
    · rw [List.getD_eq_getElem?_getD, List.getElem?_map, h1]
      exact f2
  · rw [List.getD_eq_getElem?_getD]
    cases h : ns[i]? with
    | none => exact ⟨Int.le_refl _, by decide⟩
    | some n =>
      have := hn n (List.mem_of_getElem? h)
      show 0 ≤ n ∧ n ≤ 40
      omega
  · rw [List.getD_eq_getElem?_getD, List.getElem?_map]
    cases h : ds[i]? with
    | none => exact ⟨Int.le_refl _, by decide⟩
    | some d =>
      show 0 ≤ costF d ∧ costF d ≤ 3
      unfold costF
      split <;> omega
def sw (b : Array UInt8) : Str := ⟨(qword (octsN b)).toArray⟩
theorem sw_cps (b : Array UInt8) : (sw b).cps.toList = qword (octsN b) := by unfold sw; simp
theorem qcps_lt : ∀ c, c < 256 → ∀ y ∈ qcps c, y < 256 := by
  have h : (List.range 256).all (fun c => (qcps c).all fun y => decide (y < 256)) = true := by decide +kernel
  intro c hc y hy
  have := List.all_eq_true.mp (List.all_eq_true.mp h c (List.mem_range.mpr hc)) y hy
  exact of_decide_eq_true this
theorem sw_256 (b : Array UInt8) : ∀ c ∈ (sw b).cps.toList, c < 256 := by
  intro c hc
  rw [sw_cps] at hc
  unfold qword at hc
  rcases List.mem_append.mp hc with hc | hc
  · rcases List.mem_append.mp hc with hc | hc
    · simp only [List.mem_cons, List.not_mem_nil, or_false] at hc
      omega
    · unfold qrow at hc
      obtain ⟨o, ho, hc⟩ := List.mem_flatMap.mp hc
      unfold octsN at ho
      obtain ⟨u, _, rfl⟩ := List.mem_map.mp ho
      exact qcps_lt _ u.toNat_lt _ hc
  · simp only [List.mem_cons, List.not_mem_nil, or_false] at hc
    omega
def StrR (bs : List (Array UInt8 × Tok)) (i : Nat) (r : Value) : Prop := ∃ b t, bs[i]? = some b ∧ r = .str (sw b.1) t
theorem strs_get : ∀ {ys : List Value} {ss : List Str}, ys.length = ss.length → (∀ (i : Nat) (y : Value), ys[i]? = some y → ∃ x t, ss[i]? = some x ∧ y = .str x t) → StrsAre ys ss
  | [], [], _, _ => .nil
  | [], _ :: _, h, _ => by simp at h
  | _ :: _, [], h, _ => by simp at h
  | y :: ys, x :: ss, hl, h => by
    obtain ⟨x', t, e, rfl⟩ := h 0 y rfl
    cases e
    exact .cons _ _ (strs_get (by simpa using hl) fun i z hz => h (i + 1) z hz)
theorem strs_of {bs : List (Array UInt8 × Tok)} {ys : List Value} (hl : ys.length = bs.length) (h : ∀ (i : Nat) (y : Value), ys[i]? = some y → StrR bs i y) : StrsAre ys (bs.map fun b => sw b.1) :=
  strs_get (by rw [List.length_map, hl]) fun i y hy => by
    obtain ⟨b, t, hb, rfl⟩ := h i y hy
    exact ⟨_, t, by rw [List.getElem?_map, hb]; rfl, rfl⟩
theorem cps_6q : (Str.ofString "=?x?q?").cps.toList = [61, 63, 120, 63, 113, 63] := by decide +kernel
theorem len_6q : (Str.ofString "=?x?q?").length = 6 := by decide +kernel
theorem sw_code {d n : Int} {x y : Str} (hd : 0 ≤ d ∧ d < 10) (hn : 1 ≤ n) (hx : x.cps.toList = (Str.ofString "=?x?q?").cps.toList ++ (Txt.mul (codeF d) n).cps.toList) (hy : y.cps.toList = x.cps.toList ++ (Str.ofString "?=").cps.toList) : y = sw (byteArr (List.replicate n.toNat (octF d))) := by
  obtain ⟨⟨o0, o1⟩, _, f3, _⟩ := dig_fact hd
  apply str_ext
  have e : octF d = (((octF d).toNat : Nat) : Int) := by omega
  rw [sw_cps, hy, hx, cps_6q, cps_2, cps_mul _ _ hn, f3]
  generalize (octF d).toNat = o at *
  rw [e, octs_rep _ _ (by omega)]
  unfold qword
  rw [qrow_reps]
theorem ints_get : ∀ {ys : List Value} {ns : List Int}, ys.length = ns.length → (∀ (i : Nat) (y : Value), ys[i]? = some y → ∃ x t, ns[i]? = some x ∧ y = .int x t) → IntsAre ys ns
  | [], [], _, _ => .nil
  | [], _ :: _, h, _ => by simp at h
  | _ :: _, [], h, _ => by simp at h
  | y :: ys, x :: ss, hl, h => by
    obtain ⟨x', t, e, rfl⟩ := h 0 y rfl
    cases e
    exact .cons _ _ (ints_get (by simpa using hl) fun i z hz => h (i + 1) z hz)
def LenR (ws : List (Str × Tok)) (i : Nat) (r : Value) : Prop := ∃ p t, ws[i]? = some p ∧ r = .int (p.1.length : Int) t
theorem lens_of {ws : List (Str × Tok)} {ys : List Value} (hl : ys.length = ws.length) (h : ∀ (i : Nat) (y : Value), ys[i]? = some y → LenR ws i y) : IntsAre ys (ws.map fun p => (p.1.length : Int)) :=
  ints_get (by rw [List.length_map, hl]) fun i y hy => by
    obtain ⟨p, t, hp, rfl⟩ := h i y hy
    exact ⟨_, t, by rw [List.getElem?_map, hp]; rfl, rfl⟩
theorem lens_eq {bs : List (Array UInt8 × Tok)} {ws : List (Str × Tok)} {cs rs : List Int} (P : Parts bs cs rs) (hc : Chain bs ws) (hl : ws.length = 6) : (ws.map fun p => (p.1.length : Int)) = [0] ++ (List.range 5).map fun j => (lenW cs rs (j + 1)).t := by
  have key := chain_lens P hc hl
  obtain ⟨⟨e0, t0, h0, h00⟩, _, _⟩ := hc
  refine List.ext_getElem (by simp [hl]) fun i h1 h2 => ?_
  rw [List.length_map, hl] at h1
  rw [List.getElem_map]
  cases i with
  | zero =>
    rw [List.getElem?_eq_getElem (by omega)] at h0
    rw [Option.some.inj h0]
    show ((e0.cps.size : Nat) : Int) = 0
    rw [← Array.length_toList, h00]; rfl
  | succ i =>
    have := key (i + 1) (ws[i + 1]'(by omega)).1 (ws[i + 1]'(by omega)).2 (by omega) (by omega) (List.getElem?_eq_getElem _)
    rw [this]
    simp
theorem five {α : Type} : ∀ {l : List α}, l.length = 5 → ∃ a b c d e, l = [a, b, c, d, e]
  | [a, b, c, d, e], _ => ⟨a, b, c, d, e, rfl⟩
theorem join_row {b1 b2 b3 b4 b5 : Array UInt8 × Tok} {x : Array UInt8} (h : x.toList = b1.1.toList ++ b2.1.toList ++ b3.1.toList ++ b4.1.toList ++ b5.1.toList) : KBw.bInts x = (rowP [b1, b2, b3, b4, b5] 0 5).map fun c => ((c : Nat) : Int) := by
  unfold KBw.bInts rowP octsN
  rw [h]
  simp only [List.drop_zero, Nat.sub_zero, List.take_succ_cons, List.take_zero, List.flatMap_cons, List.flatMap_nil, List.append_nil, List.map_append, List.map_map, List.append_assoc]
  rfl
theorem retsB_intro {pl : Addr} {bs : List (Array UInt8 × Tok)} {n : Nat} {h₀ : Heap} {L : Addr} {m : Str → Option Value} {news : List (Addr × Obj)} {s : Shared} {Q : Value → Shared → Prop} (rest : List (Addr × Obj)) (h1 : (125, tabObj #[]) ∈ news) (h2 : (148, tabObj #[]) ∈ news) (h3 : (pl, PySem.W.listOf (bs.map bytV).toArray n) ∈ news) (h4 : ∀ p ∈ rest, p ∈ news) (h5 : ∀ p ∈ rest, p.1 ≠ 125 ∧ p.1 ≠ 148) (h6 : pl ≠ 125) (h7 : pl ≠ 148) (h8 : @LT.lt Nat _ 148 L)
    (h : ∀ (D : Addr) (ws : List (Str × Tok)) c (ps pt : Array Value) h' tk', Chain bs ws → ws.length = 6 → Fr h₀ L h' m → News h₀ L h' ((D, PySem.W.listOf (ws.map strV).toArray c) :: (pl, PySem.W.listOf (bs.map bytV).toArray n) :: (125, tabObj ps) :: (148, tabObj pt) :: rest) → Q (.ref D) { s with heap := h', toks := tk' }) : RetsB pl bs n h₀ L m news s Q :=
  ⟨rest, h1, h2, h3, h4, h5, h6, h7, h8, h⟩
section
variable {prog : Program} {w : World} {A : Around} {E : Value → Shared → Prop} {s : Shared} {h₀ : Heap} {L : Addr} {m : Str → Option Value}
theorem add_0 {l b : Addr} {t : Tok} {n k : Nat} {us : List Value} {ms : List Int} {news : List (Addr × Obj)} {Q : Value → Shared → Prop} (F : Fr h₀ L s.heap m) (N : News h₀ L s.heap news) (hl : (l, PySem.W.listOf #[.int 0 t] n) ∈ news) (hb : (b, PySem.W.listOf us.toArray k) ∈ news) (hi : IntsAre us ms) (hz : ms.length ≤ 1000)
    (h : ∀ D vs h', IntsAre vs ([0] ++ ms) → Fr h₀ L h' m → News h₀ L h' ((D, PySem.W.listOf vs.toArray 0) :: news) → Q (.ref D) { s with heap := h' }) : wpAny (model prog w) A (binaryOp .Add (.ref l) (.ref b)) Q E s :=
  add_arrays_ints (its := #[.int 0 t]) (its2 := us.toArray) (ns := [0]) (ms := ms) F N (News.isList N hl) (News.isList N hb) (.cons _ _ .nil) (by rw [List.toList_toArray]; exact hi) (fun h' F' N' hv => h _ _ h' hv F' N') (by rw [sizeLine_eq]; simp only [List.length_cons, List.length_nil]; omega)
theorem ne_ints_same {a b : Addr} {xs ys : List Value} {ns ms : List Int} {Q : Value → Shared → Prop} (ha : s.heap.IsList a xs.toArray) (hb : s.heap.IsList b ys.toArray) (hi : IntsAre xs ns) (hj : IntsAre ys ms) (e : ns = ms) (hu : A.units + 64 < cLine) (h : Q (.bool false) s) : wpAny (model prog w) A (compareOp .NotEq (.ref a) (.ref b)) Q E s :=
  ke_ne_ints ha hb hi hj hu (by rw [decide_eq_true e]; exact h)
theorem eq_ints_same {a b : Addr} {xs ys : List Value} {ns ms : List Int} {Q : Value → Shared → Prop} (ha : s.heap.IsList a xs.toArray) (hb : s.heap.IsList b ys.toArray) (hi : IntsAre xs ns) (hj : IntsAre ys ms) (e : ns = ms) (hu : A.units + 64 < cLine) (h : Q (.bool true) s) : wpAny (model prog w) A (compareOp .Eq (.ref a) (.ref b)) Q E s :=
  ke_eq_ints ha hb hi hj hu (by rw [decide_eq_true e]; exact h)
end
theorem cost_b {ds : List Int} : ∀ c ∈ ds.map costF, 0 ≤ c ∧ c ≤ 3 := fun c hc => by
  obtain ⟨d, _, rfl⟩ := List.mem_map.mp hc
  unfold costF
  split <;> omega
theorem join_row2 {bs : List (Array UInt8 × Tok)} {x : Array UInt8} (hl : bs.length = 5) (h : x.toList = bs.flatMap fun b => b.1.toList) : KBw.bInts x = (rowP bs 0 5).map fun c => ((c : Nat) : Int) := by
  unfold KBw.bInts rowP octsN
  rw [h, List.drop_zero, Nat.sub_zero, List.take_of_length_le (by omega), List.map_flatMap, List.map_flatMap]
  refine congrArg (fun f => List.flatMap f bs) (funext fun b => ?_)
  rw [List.map_map]
  rfl
theorem row5_len {bs : List (Array UInt8 × Tok)} {x : Array UInt8} (hl : bs.length = 5) (h : x.toList = bs.flatMap fun b => b.1.toList) (hz : ∀ b ∈ bs, 0 < b.1.size ∧ b.1.size ≤ 40) : x.size ≤ 200 := by
  obtain ⟨a, b, c, d, e, rfl⟩ := five hl
  have ha := hz a (by simp); have hb := hz b (by simp); have hc := hz c (by simp); have hd := hz d (by simp); have he := hz e (by simp)
  rw [← Array.length_toList, h]
  simp only [List.flatMap_cons, List.flatMap_nil, List.append_nil, List.length_append, Array.length_toList]
  omega
theorem code_el {k : Int} {x : Str} {t : Tok} {i : Nat} {ds : List Int} {n n' : List (Addr × Obj)} (hn : n' = n) (e : codeF k = x) (h : ds[i]? = some k) : n' = n ∧ ∃ d u, ds[i]? = some d ∧ Value.str x t = .str (codeF d) u := ⟨hn, k, t, h, by rw [e]⟩
theorem cf0 : codeF 0 = Str.ofString "A" := by kernel_rfl
theorem cf1 : codeF 1 = Str.ofString "0" := by kernel_rfl
theorem cf2 : codeF 2 = Str.ofString "!" := by kernel_rfl
theorem cf3 : codeF 3 = Str.ofString "_" := by kernel_rfl
theorem cf4 : codeF 4 = Str.ofString "=3D" := by kernel_rfl
theorem cf5 : codeF 5 = Str.ofString "=E9" := by kernel_rfl
theorem cf6 : codeF 6 = Str.ofString "=00" := by kernel_rfl
theorem cf7 : codeF 7 = Str.ofString "=0A" := by kernel_rfl
theorem cf8 : codeF 8 = Str.ofString "=5F" := by kernel_rfl
theorem cf9 : codeF 9 = Str.ofString "=2E" := by kernel_rfl
section
variable {prog : Program} {w : World} {A : Around} {E : Value → Shared → Prop} {s : Shared}
theorem pow10 {k : Int} {t u : Tok} {Q : Value → Shared → Prop} (h0 : 0 ≤ k) (h5 : k < 5) (h : ∀ t' tk, Q (.int (10 ^ k.toNat) t') { s with toks := tk }) : wpAny (model prog w) A (binaryOp .Pow (.int 10 t) (.int k u)) Q E s :=
  pow_int h0 (by have e : Builtin.Int.intBits 10 = 4 := by decide +kernel
                 rw [e]; omega) (h _ _)
theorem fdiv10 {a k : Int} {t u : Tok} {Q : Value → Shared → Prop} (h0 : 0 ≤ k) (h5 : k < 5) (h : ∀ t' tk, Q (.int (a.fdiv (10 ^ k.toNat)) t') { s with toks := tk }) : wpAny (model prog w) A (binaryOp .FloorDiv (.int a t) (.int (10 ^ k.toNat) u)) Q E s := by
  have hk : k = 0 ∨ k = 1 ∨ k = 2 ∨ k = 3 ∨ k = 4 := by omega
  refine floordiv_int ?_ (h _ _) (.inl (PyProof.noPylong_small ?_)) <;> (rcases hk with rfl | rfl | rfl | rfl | rfl <;> decide +kernel)
theorem dig_cases {k : Int} {P : Int → Prop} (h : 0 ≤ k ∧ k < 10) (h0 : P 0) (h1 : P 1) (h2 : P 2) (h3 : P 3) (h4 : P 4) (h5 : P 5) (h6 : P 6) (h7 : P 7) (h8 : P 8) (h9 : P 9) : P k := by
  have hk : k = 0 ∨ k = 1 ∨ k = 2 ∨ k = 3 ∨ k = 4 ∨ k = 5 ∨ k = 6 ∨ k = 7 ∨ k = 8 ∨ k = 9 := by omega
  rcases hk with rfl | rfl | rfl | rfl | rfl | rfl | rfl | rfl | rfl | rfl <;> assumption
theorem oct_get {k : Int} (h : 0 ≤ k ∧ k < 10) (t0 t1 t2 t3 t4 t5 t6 t7 t8 t9 : Tok) : ∃ t, [Value.int 65 t0, .int 48 t1, .int 33 t2, .int 32 t3, .int 61 t4, .int 233 t5, .int 0 t6, .int 10 t7, .int 95 t8, .int 46 t9][k.toNat]? = some (.int (octF k) t) :=
  dig_cases (P := fun k => ∃ t, [Value.int 65 t0, .int 48 t1, .int 33 t2, .int 32 t3, .int 61 t4, .int 233 t5, .int 0 t6, .int 10 t7, .int 95 t8, .int 46 t9][k.toNat]? = some (.int (octF k) t)) h ⟨_, rfl⟩ ⟨_, rfl⟩ ⟨_, rfl⟩ ⟨_, rfl⟩ ⟨_, rfl⟩ ⟨_, rfl⟩ ⟨_, rfl⟩ ⟨_, rfl⟩ ⟨_, rfl⟩ ⟨_, rfl⟩
theorem code_get {k : Int} (h : 0 ≤ k ∧ k < 10) (t0 t1 t2 t3 t4 t5 t6 t7 t8 t9 : Tok) : ∃ t, [Value.str (Str.ofString "A") t0, .str (Str.ofString "0") t1, .str (Str.ofString "!") t2, .str (Str.ofString "_") t3, .str (Str.ofString "=3D") t4, .str (Str.ofString "=E9") t5, .str (Str.ofString "=00") t6, .str (Str.ofString "=0A") t7, .str (Str.ofString "=5F") t8, .str (Str.ofString "=2E") t9][k.toNat]? = some (.str (codeF k) t) :=
  dig_cases (P := fun k => ∃ t, [Value.str (Str.ofString "A") t0, .str (Str.ofString "0") t1, .str (Str.ofString "!") t2, .str (Str.ofString "_") t3, .str (Str.ofString "=3D") t4, .str (Str.ofString "=E9") t5, .str (Str.ofString "=00") t6, .str (Str.ofString "=0A") t7, .str (Str.ofString "=5F") t8, .str (Str.ofString "=2E") t9][k.toNat]? = some (.str (codeF k) t)) h ⟨_, rfl⟩ ⟨_, rfl⟩ ⟨_, rfl⟩ ⟨_, rfl⟩ ⟨_, rfl⟩ ⟨_, rfl⟩ ⟨_, rfl⟩ ⟨_, rfl⟩ ⟨_, rfl⟩ ⟨_, rfl⟩
theorem item_oct {value slice : PySem.Expr} {a : Addr} {k : Int} {u : Tok} {Q : Value → Shared → Prop} {t0 t1 t2 t3 t4 t5 t6 t7 t8 t9 : Tok} (hl : s.heap.IsList a #[Value.int 65 t0, .int 48 t1, .int 33 t2, .int 32 t3, .int 61 t4, .int 233 t5, .int 0 t6, .int 10 t7, .int 95 t8, .int 46 t9]) (hk : 0 ≤ k ∧ k < 10) (h : ∀ t, Q (.int (octF k) t) s)
    (hs : subscripted slice false (.ref a) (.int k u) = operate [.ref a, .int k u] (getItem (.ref a) (.int k u)) := by with_unfolding_all rfl) :
    wpAny (model prog w) A (subscriptTail value slice (.ref a) (.int k u)) Q E s := by
  obtain ⟨t, e⟩ := oct_get hk t0 t1 t2 t3 t4 t5 t6 t7 t8 t9
  exact kba_turn (value' := PySem.Expr.Name (PySem.Str.ofString "_") ⟨0, 0, 0, 0⟩) (fun _ => by with_unfolding_all rfl) (item_listL hl hk.1 (by omega) e (h t) hs)
theorem item_code {value slice : PySem.Expr} {a : Addr} {k : Int} {u : Tok} {Q : Value → Shared → Prop} {t0 t1 t2 t3 t4 t5 t6 t7 t8 t9 : Tok} (hl : s.heap.IsList a #[Value.str (Str.ofString "A") t0, .str (Str.ofString "0") t1, .str (Str.ofString "!") t2, .str (Str.ofString "_") t3, .str (Str.ofString "=3D") t4, .str (Str.ofString "=E9") t5, .str (Str.ofString "=00") t6, .str (Str.ofString "=0A") t7, .str (Str.ofString "=5F") t8, .str (Str.ofString "=2E") t9]) (hk : 0 ≤ k ∧ k < 10) (h : ∀ t, Q (.str (codeF k) t) s)
    (hs : subscripted slice false (.ref a) (.int k u) = operate [.ref a, .int k u] (getItem (.ref a) (.int k u)) := by with_unfolding_all rfl) :
    wpAny (model prog w) A (subscriptTail value slice (.ref a) (.int k u)) Q E s := by
  obtain ⟨t, e⟩ := code_get hk t0 t1 t2 t3 t4 t5 t6 t7 t8 t9
  exact kba_turn (value' := PySem.Expr.Name (PySem.Str.ofString "_") ⟨0, 0, 0, 0⟩) (fun _ => by with_unfolding_all rfl) (item_listL hl hk.1 (by omega) e (h t) hs)
end
theorem get5i {d0 d1 d2 d3 d4 : Int} {p0 p1 p2 p3 p4 : Tok} {i : Nat} {x : Value} (h : [Value.int d0 p0, .int d1 p1, .int d2 p2, .int d3 p3, .int d4 p4][i]? = some x) : ∃ d t, [d0, d1, d2, d3, d4][i]? = some d ∧ x = .int d t := get5 (f := id) h
@[elab_as_elim] theorem cps2 {α β γ : Type} (x : γ) {p : α → β → Prop} {f : α → β → γ} (h : ∃ a b, p a b ∧ x = f a b) {P : γ → Prop} (k : ∀ a b, p a b → P (f a b)) : P x := by
  obtain ⟨a, b, h1, rfl⟩ := h
  exact k a b h1
theorem cell_k {o : Obj} {z : Int} {t : Tok} {G : Prop} (h : o.data = .cell (some (.int z t))) (k : ∀ ff : Int, o.data = .cell (some (.int ff t)) → G) : G := k z h
@[elab_as_elim] theorem digs5 {ys : List Value} {f a : Int → Int} (hys : IntsAre ys ((rangeKs 0 5).map f)) (h : ∀ k, f k = Int.fmod (a k) 10) {P : List Value → Prop} (k : ∀ d0 d1 d2 d3 d4 t0 t1 t2 t3 t4, (∀ d ∈ [d0, d1, d2, d3, d4], 0 ≤ d ∧ d < 10) → P [Value.int d0 t0, .int d1 t1, .int d2 t2, .int d3 t3, .int d4 t4]) : P ys := by
  obtain ⟨t0, t1, t2, t3, t4, rfl⟩ := ints5 hys
  obtain ⟨d0, d1, d2, d3, d4, e0, e1, e2, e3, e4, hd⟩ := dig_gen f a h
  rw [e0, e1, e2, e3, e4]
  exact k _ _ _ _ _ _ _ _ _ _ hd
@[elab_as_elim] theorem runs5 {ys : List Value} {f a : Int → Int} (hys : IntsAre ys ((rangeKs 0 5).map f)) (h : ∀ k, f k = 1 + 4 * Int.fmod (a k) 10) {P : List Value → Prop} (k : ∀ d0 d1 d2 d3 d4 t0 t1 t2 t3 t4, (∀ d ∈ [d0, d1, d2, d3, d4], 1 ≤ d ∧ d ≤ 37) → P [Value.int d0 t0, .int d1 t1, .int d2 t2, .int d3 t3, .int d4 t4]) : P ys := by
  obtain ⟨t0, t1, t2, t3, t4, rfl⟩ := ints5 hys
  obtain ⟨d0, d1, d2, d3, d4, e0, e1, e2, e3, e4, hd⟩ := run_gen f a h
  rw [e0, e1, e2, e3, e4]
  exact k _ _ _ _ _ _ _ _ _ _ hd
@[elab_as_elim] theorem ints5k {ys : List Value} {g : Int → Int} {a b c d e : Int} (h : IntsAre ys ([a, b, c, d, e].map g)) {P : List Value → Prop} (k : ∀ t0 t1 t2 t3 t4, P [Value.int (g a) t0, .int (g b) t1, .int (g c) t2, .int (g d) t3, .int (g e) t4]) : P ys := by
  obtain ⟨t0, t1, t2, t3, t4, rfl⟩ := ints5l h
  exact k _ _ _ _ _
@[elab_as_elim] theorem parts_k {ds ns : List Int} {ys : List Value} (h : ∀ (i : Nat) (y : Value), ys[i]? = some y → PartR ds ns i y) {P : List Value → Prop} (k : ∀ bs : List (Array UInt8 × Tok), bs.length = ys.length → (∀ (i : Nat) b, bs[i]? = some b → ∃ d n, ds[i]? = some d ∧ ns[i]? = some n ∧ b.1 = byteArr (List.replicate n.toNat (octF d))) → P (bs.map bytV)) : P ys := by
  obtain ⟨bs, e, h1, h2⟩ := parts_of h
  rw [e]
  exact k bs h1 h2
@[elab_as_elim] theorem get_map_k {α : Type} {f : α → Value} {l : List α} {i : Nat} (v : Value) (h : (l.map f)[i]? = some v) {P : Value → Prop} (k : ∀ p, l[i]? = some p → P (f p)) : P v := by
  obtain ⟨p, h1, rfl⟩ : ∃ p, l[i]? = some p ∧ f p = v := Option.map_eq_some_iff.mp (by rw [← List.getElem?_map]; exact h)
  exact k p h1
end
-- Law
section
theorem lawx : PySem.Challenge.rw_il0164_01.Holds := by
  w_on
  refine holds_law hsaid fun said => ?_
  refine holds_open (q := hd.view_39) (loose := hLoose) (Xt := fun s => xlAt hd.view_39 hLv s && recOk PySem.Challenge.rw_il0164_01.row.toRowW.records s) (XP := XL hd.view_39 hLv) (Yf := (kmHook hd.heap_39 hAs hAs_is [nat_lit 125, nat_lit 148]).obs) (Ya := (kmHook hd.heap_39 hAs hAs_is [nat_lit 125, nat_lit 148]).val) (YP := (kmHook hd.heap_39 hAs hAs_is [nat_lit 125, nat_lit 148]).says) (N := 35894) hleft (kmHook hd.heap_39 hAs hAs_is [nat_lit 125, nat_lit 148]).of (kmHook hd.heap_39 hAs hAs_is [nat_lit 125, nat_lit 148]).keeps (fun s e => xl_of s (Bool.and_eq_true_iff.mp e).1) XL.keeps (by rfl) (by rfl) (by rfl) (fun s e => recFacts_of (Bool.and_eq_true_iff.mp e).2) (by rfl) (by first | assumption | decide +kernel) (by decide +kernel) ⟨rfl, rfl, rfl, rfl, rfl, by decide +kernel⟩ ?hw ?hc
  case hw => w_witness2
  k_go0
  all_goals try k_fold
  iterate 45 (first | ((with_reducible show wpAny _ _ (subscriptTail _ (PySem.Expr.Slice _ _ (some _) _) (Value.ref _) (Value.ref _)) _ _ _); refine slice_step (by k_asm) (by k_asm) (by kmk_list) (by kmk_part) (by kmk_part) (by kmk_part) (by decide) (by assumption) ?_ (by with_unfolding_all rfl) (by kmk_pure) (by kmk_size); intro iD iws ims ih iI iF iN il; (try k_lt il); (try k_sweep)) | walk_at "ONE")
  rename (_ = Data.cell (some (Value.int _ _))) => dS
  refine cell_k dS ?_
  clear dS
  intro sec dS2
  rename (_ = Data.cell (some (Value.int (_ + _) _))) => dF
  refine cell_k dF ?_
  clear dF
  intro fst dF2
  iterate 7 (walk_at "ONE")
  k_here
  refine range1_rows (by k_asm) (by k_asm) ?_
  intro h5 tk5 r1 r2 r3 hr F5 N5 kk
  try dsimp only
  refine LCg.CompSrc.range rfl F5 N5 hr (by rfl) (n := 5) (by rfl) (Nat.le_of_ble_eq_true rfl) ?_
  intro g5
  refine' kcf_range (fun k => Int.fmod (Int.fdiv fst (10 ^ k.toNat)) 10) (fun k t I2 oI C oC D m2 ys h tk E' hk0 hk3 hC hx F N off ne mk => ?turnA) ?finA
  case turnA =>
    refine wpAny_abs ?_
    intro qA hqA
    try dsimp only
    iterate 6 (walk_at "ONE")
    k_here
    refine pow10 hk0 hk3 ?_
    intro tp kp
    try dsimp only
    k_here
    refine fdiv10 hk0 hk3 ?_
    intro tq kq
    try dsimp only
    iterate 2 (walk_at "ONE")
    refine Toward.use hqA ?_
    iterate 1 (walk_at "ONE")
    exact kcf_el rfl rfl rfl
  case finA =>
    intro ys hys
    refine digs5 hys (fun _ => rfl) ?_
    clear hys
    intro d0 d1 d2 d3 d4 t0 t1 t2 t3 t4 hdig
    unfold LCg.FinA
    intro D1 h6 tk6 F6 N7 of1
    try dsimp only
    iterate 8 (walk_at "ONE")
    k_here
    refine range1_rows (by k_asm) (by k_asm) ?_
    intro h5 tk5 r1 r2 r3 hr2 F5 N5 kk
    try dsimp only
    refine LCg.CompSrc.range rfl F5 N5 hr2 (by rfl) (n := 5) (by rfl) (Nat.le_of_ble_eq_true rfl) ?_
    intro g5
    refine' kcf_range (fun k => 1 + 4 * Int.fmod (Int.fdiv sec (10 ^ k.toNat)) 10) (fun k t I2 oI C oC D m2 ys h tk E' hk0 hk3 hC hx F N off ne mk => ?turnB) ?finB
    case turnB =>
      refine wpAny_abs ?_
      intro qA hqA
      try dsimp only
      iterate 10 (walk_at "ONE")
      k_here
      refine pow10 hk0 hk3 ?_
      intro tp kp
      try dsimp only
      k_here
      refine fdiv10 hk0 hk3 ?_
      intro tq kq
      try dsimp only
      iterate 4 (walk_at "ONE")
      refine Toward.use hqA ?_
      iterate 1 (walk_at "ONE")
      exact kcf_el rfl rfl rfl
    case finB =>
      intro ys hys
      refine runs5 hys (fun _ => rfl) ?_
      clear hys
      intro n0 n1 n2 n3 n4 u0 u1 u2 u3 u4 hrun
      unfold LCg.FinA
      intro D2 h6 tk6 F6 N7 of2
      try dsimp only
      iterate 1 (walk_at "ONE")
      k_here
      k_dflt (refine LCg.Assign_ListComp_U (F₀ := by k_asm) (by rfl) (by with_unfolding_all rfl) (by with_unfolding_all rfl) (by decide) (by rfl) (by decide) (by rfl) (by rfl) (by rfl) ?_)
      iterate 1 (walk_at "ONE")
      rename Fr _ _ _ _ => F8
      rename News _ _ _ _ => N8
      refine LCg.CompSrc.ledger rfl F8 N8 (.tail _ (.head _)) (Nat.le_of_ble_eq_true rfl) ?_
      intro g6
      refine' kcf_list (ns := [d0, d1, d2, d3, d4]) octF (.cons _ _ (.cons _ _ (.cons _ _ (.cons _ _ (.cons _ _ .nil))))) (fun k t I2 oI C oC D m2 ys h tk E' hkm hC hx F N off ne mk => ?turnC) ?finC
      case turnC =>
        refine wpAny_abs ?_
        intro qA hqA
        try dsimp only
        have hk := hdig k hkm
        iterate 25 (walk_at "ONE")
        k_here
        refine item_oct (News.isList (by k_asm) (by k_mem)) hk ?_
        intro tc
        try dsimp only
        refine Toward.use hqA ?_
        iterate 1 (walk_at "ONE")
        exact kcf_el rfl rfl rfl
      case finC =>
        intro ys hys
        refine ints5k hys ?_
        clear hys
        intro p0 p1 p2 p3 p4
        unfold LCg.FinA
        intro D3 h6 tk6 F6 N7 of3
        try dsimp only
        iterate 1 (walk_at "ONE")
        k_here
        k_dflt (refine LCg.Assign_ListComp_U (F₀ := by k_asm) (by rfl) (by with_unfolding_all rfl) (by with_unfolding_all rfl) (by decide) (by rfl) (by decide) (by rfl) (by rfl) (by rfl) ?_)
        iterate 1 (walk_at "ONE")
        rename Fr _ _ _ _ => F9
        rename News _ _ _ _ => N9
        refine LCg.CompSrc.ledger rfl F9 N9 (.tail _ (.tail _ (.head _))) (Nat.le_of_ble_eq_true rfl) ?_
        intro g7
        refine' kcf_list (ns := [d0, d1, d2, d3, d4]) costF (.cons _ _ (.cons _ _ (.cons _ _ (.cons _ _ (.cons _ _ .nil))))) (fun k t I2 oI C oC D m2 ys h tk E' hkm hC hx F N off ne mk => ?turnD) ?finD
        case turnD =>
          refine wpAny_abs ?_
          intro qA hqA
          try dsimp only
          have hk := hdig k hkm
          by_cases hk4 : k < 4
          all_goals (iterate 8 (walk_at "ONE"))
          all_goals refine Toward.use hqA ?_
          all_goals (iterate 1 (walk_at "ONE"))
          · exact kcf_el (if_pos hk4) rfl rfl
          · exact kcf_el (if_neg hk4) rfl rfl
        case finD =>
          intro ys hys
          refine ints5k hys ?_
          clear hys
          intro q0 q1 q2 q3 q4
          unfold LCg.FinA
          intro D4 h6 tk6 F6 N7 of4
          try dsimp only
          iterate 1 (walk_at "ONE")
          k_here
          k_dflt (refine Assign_ListComp_Z (_F₀ := by k_asm) (by rfl) (by with_unfolding_all rfl) (by with_unfolding_all rfl) (by decide) (by rfl) (by decide) (by rfl) (by rfl) (by decide +kernel) (by rfl) (by rfl) ?_)
          iterate 8 (walk_at "ONE")
          k_here
          rename Fr _ _ _ _ => F10
          rename News _ _ _ _ => N10
          refine' pairs_zip (PartR [d0, d1, d2, d3, d4] [n0, n1, n2, n3, n4]) rfl F10 N10 (.tail _ (.head _)) rfl rfl (.tail _ (.tail _ (.head _))) rfl rfl rfl (Nat.le_of_ble_eq_true rfl) ?turnE ?finE
          case turnE =>
            intro i x y hx hy C oC D m2 zs own h tk E' hC ha hb F N
            refine wpAny_abs ?_
            intro qA hqA
            revert ha
            refine cps2 x (get5 hx) ?_
            intro d td hd' ha
            revert hb
            refine cps2 y (get5i hy) ?_
            intro n tn hn' hb
            have hdd := hdig d (List.mem_of_getElem? hd')
            have hnn := hrun n (List.mem_of_getElem? hn')
            iterate 2 (walk_at "ONE")
            k_here
            k_dflt (refine LCgL.ld_built (by k_asm) (by k_asm) (by k_asm) (by k_is) (by boot_by_name) (by decide) ?_)
            iterate 9 (walk_at "ONE")
            k_here
            rename Fr _ _ _ _ => F11
            rename News _ _ _ _ => N11
            refine mul_one F11 N11 (.head _) (Int.le_trans (by decide) hnn.1) (Int.le_trans hnn.2 (by decide)) ?_
            intro D7 h8 F12 N12
            try dsimp only
            iterate 1 (walk_at "ONE")
            k_here
            rename Fr _ _ _ _ => F13
            rename News _ _ _ _ => N13
            refine bytes_rep rfl F13 N13 (.head _) (dig_fact hdd).1 (by omega (config := {})) ?_
            intro h9 t9 tk9 F14 N14
            try dsimp only
            refine Toward.use hqA ?_
            exact ⟨⟨_, _, rfl, F14, fun p hp => N14 p (.tail _ (.tail _ hp))⟩, d, n, _, hd', hn', rfl⟩
          case finE =>
            intro zs g hl hR
            refine parts_k hR ?_
            intro bs hbl hbb
            unfold LCg.FinA
            intro D5 h6 tk6 F6 N7 of5
            try dsimp only
            have hb5 : bs.length = 5 := hbl.trans hl
            have HP := parts_ok hb5 hbb hdig hrun
            clear hR hbl hl
            iterate 1 (walk_at "ONE")
            k_here
            k_dflt (refine LCg.Assign_ListComp_U (F₀ := by k_asm) (by rfl) (by with_unfolding_all rfl) (by with_unfolding_all rfl) (by decide) (by rfl) (by decide) (by rfl) (by rfl) (by rfl) ?_)
            iterate 1 (walk_at "ONE")
            rename Fr _ _ _ _ => F11
            rename News _ _ _ _ => N11
            refine LCg.CompSrc.ledger rfl F11 N11 (.tail _ (.tail _ (.tail _ (.tail _ (.head _))))) (Nat.le_of_ble_eq_true rfl) ?_
            intro g8
            refine kg_rest (fun i r => ∃ d t, [d0, d1, d2, d3, d4][i]? = some d ∧ r = .str (codeF d) t) ?turnF ?finF
            case turnF =>
              intro i v I oI C oC D m2 ys h tk E' hi hv hC hx F N off ne
              revert hx
              refine cps2 v (get5i (i := i) (x := v) (by simpa using hv)) ?_
              clear hv
              intro d td hd' hx
              refine wpAny_abs ?_
              intro qA hqA
              try dsimp only
              have hdd := hdig d (List.mem_of_getElem? hd')
              iterate 25 (walk_at "ONE")
              k_here
              refine item_code (News.isList (by k_asm) (by k_mem)) hdd ?_
              intro tc
              try dsimp only
              rename Fr _ _ _ _ => F12
              rename News _ _ _ _ => N12
              refine Toward.use hqA ?_
              exact LCg.CompEnd.intro F12 N12 _ (fun p hp => .tail _ hp) off (.inr ⟨_, .tail _ (.tail _ (.tail _ (.tail _ (.head _)))), rfl, _, rfl⟩) (code_el rfl rfl hd')
            case finF =>
              intro zc hzl hzR
              unfold LCg.FinA
              intro D6 h6 tk6 F6 N7 of6
              try dsimp only
              iterate 3 (walk_at "ONE")
              k_here
              k_dflt (refine LCg.ListComp_U (F₀ := by k_asm) (by with_unfolding_all rfl) (by decide) (by rfl) (by decide) (by rfl) ?_)
              iterate 1 (walk_at "ONE")
              rename Fr _ _ _ _ => F15
              rename News _ _ _ _ => N15
              refine LCg.CompSrc.ledger rfl F15 N15 (.tail _ (.head _)) ?szG ?_
              case szG => rw [List.size_toArray, List.length_map, hb5]; exact Nat.le_of_ble_eq_true rfl
              intro g9
              refine kg_rest (StrR bs) ?turnG ?finG
              case turnG =>
                intro i v I oI C oC D m2 ys h tk E' hi hv hC hx F N off ne
                revert hx
                refine get_map_k v (f := bytV) (l := bs) (i := i) (by simpa using hv) ?_
                clear hv
                rintro ⟨b, tb⟩ hb' hx
                refine wpAny_abs ?_
                intro qA hqA
                try dsimp only
                simp only [bytV] at hx
                have hbz := HP.size _ (List.mem_of_getElem? hb')
                iterate 9 (first | ((with_reducible refine isNC "header_encode" ?_); refine LCgL.ld_global (by k_asm) (by k_asm) (by k_asm) (by k_is) ?_) | walk_at "ONE")
                rename Fr _ _ _ _ => F16
                rename (hd.heap_39 _).In _ => X16
                refine ⟨X16.keeps F16.keep, ?_⟩
                k_here
                refine' use_call (henc_b b tb _ hbz.1 (Nat.le_trans hbz.2 (by decide))) ?vB ?vF ?vX ?vN ?vT ?vK ?vd ?vu ?vp
                case vB => k_asm
                case vF => k_asm
                case vX => k_asm
                case vN => k_asm
                case vT => k_asm
                case vK => first | exact rfl | assumption
                case vd => ktr_room
                case vu => ktr_units
                intro x tx h12 tk12 hx12 F12 N12
                try dsimp only
                refine Toward.use hqA ?_
                refine LCg.CompEnd.intro F12 N12 _ (fun p hp => hp) off (.inr ⟨_, .tail _ (.head _), rfl, _, rfl⟩) ⟨rfl, _, tx, hb', ?_⟩
                rw [show x = sw b from str_ext (by rw [sw_cps]; exact hx12.1)]
              case finG =>
                intro z1s hzl1 hzR1
                have hS1 := strs_of (by rw [hzl1, List.size_toArray, List.length_map]) hzR1
                unfold LCg.FinE
                intro D7 h6 tk6 F6 N7 of7
                try dsimp only
                k_here
                k_dflt (refine ListComp_Z (_F₀ := by k_asm) (by with_unfolding_all rfl) (by decide) (by rfl) (by decide) (by rfl) (by rfl) (by decide +kernel) ?_)
                iterate 8 (walk_at "ONE")
                k_here
                rename Fr _ _ _ _ => F16
                rename News _ _ _ _ => N16
                have hz5 : zc.length = 5 := hzl
                refine' pairs_zip (xs := zc) (StrR bs) rfl F16 N16 (.tail _ (.head _)) rfl rfl (.tail _ (.tail _ (.tail _ (.tail _ (.tail _ (.head _)))))) rfl rfl hz5 (by rw [hz5]; exact Nat.le_of_ble_eq_true rfl) ?turnH ?finH
                case turnH =>
                  intro i x y hx hy C oC D m2 zs own h tk E' hC ha hb F N
                  refine wpAny_abs ?_
                  intro qA hqA
                  revert ha
                  refine cps2 x (hzR i x hx) ?_
                  intro d td hd' ha
                  revert hb
                  refine cps2 y (get5i hy) ?_
                  intro n tn hn' hb
                  have hdd := hdig d (List.mem_of_getElem? hd')
                  have hnn := hrun n (List.mem_of_getElem? hn')
                  have hi5 : i < 5 := (List.getElem?_eq_some_iff.mp hn').1
                  obtain ⟨b, hb'⟩ : ∃ b, bs[i]? = some b := ⟨_, List.getElem?_eq_getElem (by omega)⟩
                  obtain ⟨d', n', e1, e2, hbe⟩ := hbb i b hb'
                  rw [hd'] at e1
                  rw [hn'] at e2
                  cases e1
                  cases e2
                  iterate 6 (walk_at "ONE")
                  k_here
                  refine KXi.mul rfl (by have := (dig_fact hdd).2.2.2; omega) (by omega) (by omega) ?_
                  intro tz kz _ hzl2
                  have hml := mul_len (dig_fact hdd).2.2.2 hnn (hzl2 (by omega))
                  try dsimp only
                  k_here
                  refine add_s (by rw [len_6q]; omega) ?_
                  intro z1 tz1 kz1 hz1 hzl1
                  try dsimp only
                  iterate 1 (walk_at "ONE")
                  k_here
                  refine add_s (by rw [hzl1, len_6q, len_2]; omega) ?_
                  intro z2 tz2 kz2 hz2 hzl2
                  try dsimp only
                  rename Fr _ _ _ _ => F17
                  rename News _ _ _ _ => N17
                  have hsw := sw_code hdd hnn.1 hz1 hz2
                  refine Toward.use hqA ?_
                  exact ⟨⟨_, _, rfl, F17, N17⟩, b, _, hb', by rw [hsw, hbe]⟩
                case finH =>
                  intro zs g hl hR
                  have hS2 := strs_of (by rw [hl, hz5, hb5]) hR
                  unfold LCg.FinE
                  intro D8 h6 tk6 F6 N7 of8
                  try dsimp only
                  k_here
                  refine ne_strs (News.isList N7 (.tail _ (.head _))) (News.isList N7 (.head _)) hS1 hS2 (fun x hx => ?okH) (by ke_room) ?_
                  case okH =>
                    obtain ⟨b, _, rfl⟩ := List.mem_map.mp hx
                    exact sw_256 b.1
                  try dsimp only
                  iterate 11 (walk_at "ONE")
                  rename Fr _ _ _ _ => F18
                  rename News _ _ _ _ => N18
                  rename (hd.heap_39 _).In _ => X18
                  refine ⟨X18.keeps F18.keep, ?_⟩
                  k_here
                  refine' use_call (lbest D5 bs hb5 HP.size (bs.map bytV).length) ?xB ?xF ?xX ?xN ?xT ?xK ?xd ?xu ?xp
                  case xB => k_asm
                  case xF => k_asm
                  case xX => k_asm
                  case xN => k_asm
                  case xT => k_asm
                  case xK => first | exact rfl | assumption
                  case xd => ktr_room
                  case xu => ktr_units
                  refine' retsB_intro [(D4, LCg.lst [.int (costF d0) q0, .int (costF d1) q1, .int (costF d2) q2, .int (costF d3) q3, .int (costF d4) q4]), (D2, LCg.lst [.int n0 u0, .int n1 u1, .int n2 u2, .int n3 u3, .int n4 u4])] ?xa ?xb ?xc ?xe ?xf ?xg ?xh ?xi ?_
                  case xa => k_mem
                  case xb => k_mem
                  case xc => k_mem
                  case xe =>
                    intro p hp
                    rcases List.mem_cons.mp hp with rfl | hp
                    · exact .tail _ (.tail _ (.tail _ (.tail _ (.head _))))
                    · rw [List.mem_singleton.mp hp]
                      exact .tail _ (.tail _ (.tail _ (.tail _ (.tail _ (.tail _ (.head _))))))
                  case xf =>
                    intro p hp
                    rcases List.mem_cons.mp hp with rfl | hp
                    · exact ⟨Ne.symm (off1_ne of4 (by k_mem)), Ne.symm (off1_ne of4 (by k_mem))⟩
                    · rw [List.mem_singleton.mp hp]
                      exact ⟨Ne.symm (off1_ne of2 (by k_mem)), Ne.symm (off1_ne of2 (by k_mem))⟩
                  case xg => exact Ne.symm (off1_ne of5 (by k_mem))
                  case xh => exact Ne.symm (off1_ne of5 (by k_mem))
                  case xi =>
                    rename (@LT.lt Nat _ 125 _ ∧ @LT.lt Nat _ 148 _) => lz
                    exact lz.2
                  intro D9 ws c9 tps tpt h13 tk13 hch hws F19 N19
                  try dsimp only
                  iterate 5 (walk_at "ONE")
                  k_here
                  k_dflt (refine LCg.ListComp_U (F₀ := by k_asm) (by with_unfolding_all rfl) (by decide) (by rfl) (by decide) (by rfl) ?_)
                  iterate 1 (walk_at "ONE")
                  rename Fr _ _ _ _ => F20
                  rename News _ _ _ _ => N20
                  refine LCg.CompSrc.ledger rfl F20 N20 (.head _) (by rw [List.size_toArray, List.length_map, hws]; exact Nat.le_of_ble_eq_true rfl) ?_
                  intro g10
                  refine kg_rest (LenR ws) ?turnI ?finI
                  case turnI =>
                    intro i v I oI C oC D m2 ys h tk E' hi hv hC hx F N off ne
                    revert hx
                    refine get_map_k v (f := strV) (l := ws) (i := i) (by simpa using hv) ?_
                    clear hv
                    rintro ⟨y, ty⟩ hy' hx
                    refine wpAny_abs ?_
                    intro qA hqA
                    try dsimp only
                    simp only [strV] at hx
                    have hyl : y.length ≤ 5000 := hch.2.2 _ (List.mem_of_getElem? hy')
                    iterate 7 (first | ((with_reducible refine isNC "len" ?_); refine LCgL.ld_built (by k_asm) (by k_asm) (by k_asm) (by k_is) (by boot_by_name) (by decide) ?_) | walk_at "ONE")
                    rename Fr _ _ _ _ => F22
                    rename News _ _ _ _ => N22
                    refine Toward.use hqA ?_
                    exact LCg.CompEnd.intro F22 N22 _ (fun p hp => hp) off (.inr ⟨_, .head _, rfl, _, rfl⟩) ⟨rfl, (y, ty), _, hy', rfl⟩
                  case finI =>
                    intro z3 hzl3 hzR3
                    have hI1 := lens_of (by rw [hzl3, List.size_toArray, List.length_map]) hzR3
                    unfold LCg.FinE
                    intro D10 h6 tk6 F6 N7 of10
                    try dsimp only
                    iterate 14 (walk_at "ONE")
                    rename Fr _ _ _ _ => F21
                    rename News _ _ _ _ => N21
                    rename (hd.heap_39 _).In _ => X21
                    refine ⟨X21.keeps F21.keep, ?_⟩
                    k_here
                    refine' use_call (lawlen D4 D2 [.int (costF d0) q0, .int (costF d1) q1, .int (costF d2) q2, .int (costF d3) q3, .int (costF d4) q4] [.int n0 u0, .int n1 u1, .int n2 u2, .int n3 u3, .int n4 u4] 5 5 ([d0, d1, d2, d3, d4].map costF) [n0, n1, n2, n3, n4] (.cons _ _ (.cons _ _ (.cons _ _ (.cons _ _ (.cons _ _ .nil))))) (.cons _ _ (.cons _ _ (.cons _ _ (.cons _ _ (.cons _ _ .nil))))) rfl (Nat.le_of_ble_eq_true rfl) cost_b (fun r hr => by have := hrun r hr; omega)) ?yB ?yF ?yX ?yN ?yT ?yK ?yd ?yu ⟨?ya, ?yb, ?_⟩
                    case yB => k_asm
                    case yF => k_asm
                    case yX => k_asm
                    case yN => k_asm
                    case yT => k_asm
                    case yK => first | exact rfl | assumption
                    case yd => ktr_room
                    case yu => ktr_units
                    case ya => k_mem
                    case yb => k_mem
                    intro D11 us c11 h14 tk14 hus F22 N22
                    try dsimp only
                    k_here
                    refine add_0 F22 N22 (.tail _ (.head _)) (.head _) hus (by rw [List.length_map, List.length_range]; exact Nat.le_of_ble_eq_true rfl) ?_
                    intro D12 vs h15 hvs F23 N23
                    try dsimp only
                    k_here
                    refine ne_ints_same (News.isList N23 (.tail _ (.tail _ (.tail _ (.head _))))) (News.isList N23 (.head _)) hI1 hvs (lens_eq HP hch hws) (by ke_room) ?_
                    try dsimp only
                    iterate 13 (walk_at "ONE")
                    obtain ⟨⟨x5, t5⟩, hx5⟩ : ∃ p, ws[5]? = some p := ⟨_, List.getElem?_eq_getElem (by omega)⟩
                    obtain ⟨W, hW0, hW5, hWx, hWr, hW2, hWl⟩ := chain_words hch (by omega) HP.size 5 5 x5 t5 (by omega) (by omega) (by omega) hx5
                    have hxl : x5.length ≤ 5000 := hch.2.2 _ (List.mem_of_getElem? hx5)
                    k_here
                    rename News _ _ _ _ => N24
                    refine item_listL (News.isList N24 (.tail _ (.tail _ (.tail _ (.tail _ (.head _)))))) (x := .str x5 t5) (by decide) (by decide) (by rw [List.getElem?_map]; exact congrArg (Option.map strV) hx5) ?_
                    try dsimp only
                    iterate 1 (walk_at "ONE")
                    rename Fr _ _ _ _ => F25
                    rename News _ _ _ _ => N25
                    rename (hd.heap_39 _).In _ => X25
                    refine ⟨X25.keeps F25.keep, ?_⟩
                    k_here
                    refine' use_call (lawread x5 t5 W hW0 hW2 hWl hW5 hWx (by omega)) ?zB ?zF ?zX ?zN ?zT ?zK ?zd ?zu ?_
                    case zB => k_asm
                    case zF => k_asm
                    case zX => k_asm
                    case zN => k_asm
                    case zT => k_asm
                    case zK => first | exact rfl | assumption
                    case zd => ktr_room
                    case zu => ktr_units
                    intro D13 us13 c13 h16 tk16 hus13 F26 N26
                    rw [hWr] at hus13
                    try dsimp only
                    iterate 11 (first | (with_reducible refine method_join ?_) | walk_at "ONE")
                    rename Fr _ _ _ _ => F27
                    rename News _ _ _ _ => N27
                    k_here
                    refine' bjoinL (bs := bs) (n := (bs.map bytV).length) F27 ?jX N27 ?jT ?jm ?j0 ?j5 ?jz ?_
                    case jX => k_asm
                    case jT => k_asm
                    case jm => k_mem
                    case j0 => omega
                    case j5 => omega
                    case jz => exact fun b hb => Nat.le_trans (HP.size b hb).2 (by decide)
                    intro xj tj h17 tk17 hxj F28 N28
                    try dsimp only
                    iterate 1 (walk_at "ONE")
                    have hj200 := row5_len hb5 hxj HP.size
                    rename Fr _ _ _ _ => F29
                    rename News _ _ _ _ => N29
                    k_here
                    refine listN_b rfl xj tj (by rw [sizeLine_eq]; omega) F29 N29 ?_
                    intro D14 h18 tk18 us14 c14 hus14 F30 N30
                    rw [join_row2 hb5 hxj] at hus14
                    try dsimp only
                    k_here
                    refine eq_ints_same (News.isList N30 (.tail _ (.head _))) (News.isList N30 (.head _)) hus13 hus14 rfl (by ke_room) ?_
                    try dsimp only
                    iterate 3 (walk_at "ONE")
end
end Mine
theorem PySem.Challenge.cw_il0164_01_holds : PySem.Challenge.rw_il0164_01.Holds := by
  exact Mine.lawx
