import PyProof.Rows.All
import Wide.All
import OpenK.AllK
import Wide.FinOn
import PySem.Challenge.RW_pa0032_01
open PySem PySem.W PyProof.Rows
set_option Elab.async false
set_option maxRecDepth 100000
set_option maxHeartbeats 8000000
namespace Mine
set_option synthInstance.maxSize 1 in
open_top hd for PySem.Challenge.rw_pa0032_01
section
open PySem.Calls
noncomputable abbrev LO : List Str := looseW hd.view_39 [Str.ofString "bytes_types", Str.ofString "a2b_base64", Str.ofString "b2a_base64", Str.ofString "b64encode", Str.ofString "b64decode", Str.ofString "_urlsafe_encode_translation", Str.ofString "_urlsafe_decode_translation"]
noncomputable abbrev PR : Program := Challenge.rw_pa0032_01.row.prog

/-- entering a def whose caller's objects it does not turn: all that stands is its ground -/
theorem enter {w : World} {A A₀ : Around} {s : Shared} {L : Addr} {h₀ base : Heap} {m mg mb : Str → Option Value} {mean : ExcName → Option Value}
    {env : Env} {outer : List Env} {R : Result → Shared → Prop} {name qual : Str} {params : Arguments} {body : List Stmt} {scope : Scope} {dV kV doc pm cdv ct oc : Value} {an od : Option Addr} {osl : Array (Option Value)} {f : Addr} {args : Args} {binds : List (Str × Value)}
    (B : Below A₀ base outer h₀) (F : Fr h₀ L s.heap m) (X₀ : (hd.heap_39 w.params).In h₀) (T : Top hd.view_39 LO mean mg mb h₀) (hA : A.frames = some (env :: outer)) (hf : env.frame = some L) (hke : env.scope.kind = .function)
    (ho : (hd.heap_39 w.params).lookup f = some ⟨oc, od, .func (fnOf name qual params body scope dV kV doc pm an cdv ct), osl⟩) (hcd : codeIn (hd.heap_39 w.params) cdv qual = true) (hroom : A.depth < recursionLimit)
    (hbind : BindsTo s (fnOf name qual params body scope dV kV doc pm an cdv ct) args binds) (hloc : ∀ y ∈ binds, scope.names.lookup y.1 = some .local)
    (h : ∀ g L' h₁, g = s.heap → Fr h₀ L g m → Fr g L' h₁ (fun y => binds.reverse.lookup y) → News g L' h₁ [] → Below A base (env :: outer) g → (hd.heap_39 w.params).In g → Top hd.view_39 LO mean mg mb g →
      wpAny (model PR w) (A.deeper (envOf qual scope L' f cdv)) (execs body (envOf qual scope L' f cdv))
        (fun fl s' => LeaveK h₀ L m g R (match fl with | .ret v => v | _ => .none) s')
        (fun e s' => wpAny (model PR w) (A.deeper (envOf qual scope L' f cdv)) (leaving (envOf qual scope L' f cdv) e) (fun _ s'' => R (.error e) s'') (fun e' s'' => R (.error e') s'') s')
        { s with heap := h₁, toks := s.toks + binds.length })
    (hco : scope.isCoroutine = false) (hgen : scope.isGenerator = false) (hk : scope.kind = .function)
    (hcell : ∀ x ∈ scope.names, x.2 ≠ .cell) : codeAny (model PR w) A (.call (.ref f) args) R s := by
  obtain ⟨FG, BG, st, lv⟩ := groundX (R := R) B F (News.nil (h := s.heap)) hA hf hke
  have X := X₀.keeps F.keep
  refine codeAny_call_def (fd := fnOf name qual params body scope dV kV doc pm an cdv ct) (body := body) (binds := binds) hroom (X _ _ ho) rfl (T.nolimit.keeps F.keep) (codeRec_of X hcd) rfl hbind hcell hloc (fun h₁ hns hk₁ => ?_) hco hgen hk
  exact wpAny_mono (h _ s.heap.objs.size h₁ rfl FG ⟨hns, fun b o e => hk₁ b o e, Nat.le_refl _⟩ News.nil BG X (T.keeps F.keep)) (fun fl s' hl => lv _ _ hl) fun _ _ y => y

/-- what a call of the def at f says: it hands back r with P r, and all that stood stands -/
def Says (w : World) (mean : ExcName → Option Value) (mg mb : Str → Option Value) (f : Addr) (k : Nat) (Pre : Heap → Prop) (vs : List Value) (kw : List (Str × Value)) (P : Heap → Heap → Value → Prop) : Prop :=
  ∀ (dp un : Nat) (gd : Option (List Code)) (cn : Str) (cs : Scope) (a : Addr) (ccd : Value) (cl : List (Str × Addr)) (outer : List Env) (A₀ : Around) (base h₀ : Heap) (L : Addr) (m : Str → Option Value) (s : Shared) (Q E : Value → Shared → Prop),
    Below A₀ base outer h₀ → Fr h₀ L s.heap m → (hd.heap_39 w.params).In h₀ → Top hd.view_39 LO mean mg mb h₀ → cs.kind = .function → dp + k < recursionLimit → un + 8 * k < cLine → Pre s.heap →
    (∀ r h' tk', s.heap.StaysIn h' → P s.heap h' r → Q r { s with heap := h', toks := tk' }) →
    wpAny (model PR w) (ktrTop dp un gd cn cs L a ccd cl outer) (call (.ref f) vs kw) Q E s

theorem use {w : World} {mean : ExcName → Option Value} {mg mb : Str → Option Value} {f : Addr} {k : Nat} {Pre : Heap → Prop} {vs : List Value} {kw : List (Str × Value)} {P : Heap → Heap → Value → Prop}
    {dp un : Nat} {gd : Option (List Code)} {cn : Str} {cs : Scope} {a : Addr} {ccd : Value} {cl : List (Str × Addr)} {outer : List Env} {A₀ : Around} {base h₀ : Heap} {L : Addr} {m : Str → Option Value} {news : List (Addr × Obj)} {s : Shared} {Q E : Value → Shared → Prop}
    (C : Says w mean mg mb f k Pre vs kw P) (B : Below A₀ base outer h₀) (F : Fr h₀ L s.heap m) (X : (hd.heap_39 w.params).In h₀) (N : News h₀ L s.heap news) (T : Top hd.view_39 LO mean mg mb h₀) (hk : cs.kind = .function) (hd : dp + k < recursionLimit) (hu : un + 8 * k < cLine) (hp : Pre s.heap)
    (ret : ∀ r h' tk', Fr h₀ L h' m → News h₀ L h' news → s.heap.StaysIn h' → P s.heap h' r → Q r { s with heap := h', toks := tk' }) :
    wpAny (model PR w) (ktrTop dp un gd cn cs L a ccd cl outer) (call (.ref f) vs kw) Q E s :=
  C _ _ _ _ _ _ _ _ _ _ _ _ _ _ _ _ _ B F X T hk hd hu hp fun r h' tk' st p => ret r h' tk' (F.keeps st) (N.grown st) st p

theorem kept9 {g h' : Heap} {s : Shared} {L' : Addr} {m' : Str → Option Value} (hg : g = s.heap) (F : Fr g L' h' m') : s.heap.StaysIn h' := hg ▸ F.keep
theorem exInt {a b : Int} {t : Tok} (h : a = b) : ∃ t', Value.int a t = Value.int b t' := ⟨t, by rw [h]⟩
theorem exStr {a b : Str} {t : Tok} (h : a = b) : ∃ t', Value.str a t = Value.str b t' := ⟨t, by rw [h]⟩
theorem exBytes {a b : Array UInt8} {t : Tok} (h : a = b) : ∃ t', Value.bytes a t = Value.bytes b t' := ⟨t, by rw [h]⟩
end
section
open PySem.Calls Builtin

theorem forIn_two {σ : Type} (n : Nat) (a b : σ) (body : Nat → σ → Sem (ForInStep σ)) (h1 : ∀ i, body i a = pure (.yield b)) (h2 : ∀ i, body i b = pure (.done b)) (k : Nat) :
    forIn (List.range' k (n + 1)) a body = (pure b : Sem σ) := by
  rw [List.range'_succ, List.forIn_cons, h1]
  show forIn (List.range' (k + 1) n) b body = pure b
  cases n with
  | zero => rfl
  | succ n => rw [List.range'_succ, List.forIn_cons, h2]; rfl
theorem foldl_bytes (l : List Nat) : ∀ acc : Array UInt8, l.foldl (fun acc y => acc ++ ([y.toUInt8] : List UInt8).toArray) acc = acc ++ (l.map (·.toUInt8)).toArray := by
  induction l with
  | nil => intro acc; simp
  | cons c r ih => intro acc; rw [List.foldl_cons, ih]; simp
theorem narrow_ascii (id : String) (self : Value) (x : PySem.Str) (h : ∀ c ∈ x.cps.toList, c < 128) (hz : x.length ≤ sizeLine) : _codecs.encodeNarrow id _codecs.asciiCodec none self x = pure (x.cps.map (·.toUInt8)) := by
  unfold _codecs.encodeNarrow
  simp only [Std.Legacy.Range.forIn_eq_forIn_range']
  have hbad : ∀ c ∈ x.cps, _codecs.asciiCodec.bad c = false := fun c hc => by
    have := h c (Array.mem_toList_iff.mpr hc)
    show decide (c ≥ 128) = false
    simp; omega
  have hn : [:x.length].size = x.cps.size := by simp [Std.Legacy.Range.size, PySem.Str.length]
  rw [hn]
  rcases Nat.eq_zero_or_pos x.cps.size with hc | hc
  · have e : x.cps = #[] := Array.eq_empty_of_size_eq_zero hc
    have hr : List.range' 0 x.cps.size = [] := by rw [hc]; rfl
    rw [hr, List.forIn_nil]
    show (pure (#[] : Array UInt8) : Sem (Array UInt8)) = _
    rw [e]
    simp
  · obtain ⟨n, hn'⟩ : ∃ n, x.cps.size = n + 1 := ⟨x.cps.size - 1, by omega⟩
    have hr : List.range' 0 x.cps.size = List.range' 0 (n + 1) := by rw [hn']
    rw [hr]
    have hfi : Array.findIdx? _codecs.asciiCodec.bad x.cps = none := by
      rw [Array.findIdx?_eq_none_iff]; exact hbad
    have hout : Array.foldl (fun acc y => acc ++ (_codecs.asciiCodec.bytesOf y).toArray) #[] x.cps = x.cps.map (·.toUInt8) := by
      show Array.foldl (fun acc y => acc ++ ([y.toUInt8] : List UInt8).toArray) #[] x.cps = _
      rw [← Array.foldl_toList, foldl_bytes, ← Array.toList_map, Array.toArray_toList, Array.empty_append]
    rw [forIn_two n ((0, #[], {}) : Nat × Array UInt8 × _codecs.Faults) (x.cps.size, x.cps.map (·.toUInt8), {})]
    · rfl
    · intro i
      have e0 : x.cps[0]? = some (x.cps[0]'(by omega)) := Array.getElem?_eq_getElem (by omega)
      have b0 := hbad (x.cps[0]'(by omega)) (Array.getElem_mem _)
      simp [e0, b0, hfi, Array.extract_size, hout]
    · intro i
      have e0 : x.cps[x.cps.size]? = none := by simp
      have e1 : ¬ (x.cps.map (·.toUInt8)).size > sizeLine := by
        rw [Array.size_map]; exact Nat.not_lt.mpr hz
      simp only [e0, if_neg e1]

theorem road_ascii {id : String} {self : Value} {x : PySem.Str} : _codecs.encodeRoad id self x (PySem.Str.ofString "ascii") none = (_codecs.encodeNarrow id _codecs.asciiCodec none self x >>= fun r => mkBytes r) := by kernel_rfl
theorem encode_eq (x : PySem.Str) (t u : Tok) : «str.encode» ⟨[.str x t, .str (PySem.Str.ofString "ascii") u], []⟩ = (_codecs.encodeRoad "str.encode" (.str x t) x (PySem.Str.ofString "ascii") none >>= fun v => ret v) := by kernel_rfl
theorem meets_encode (x : PySem.Str) (t u : Tok) (h : ∀ c ∈ x.cps.toList, c < 128) (hz : x.length ≤ sizeLine) :
    Meets («str.encode» ⟨[.str x t, .str (PySem.Str.ofString "ascii") u], []⟩) (fun _ R s => R (.ok (.ret (.bytes (x.cps.map (·.toUInt8)) s.toks))) { s with toks := s.toks + 1 }) := by
  refine .of_wp fun prog w A R s hS => ?_
  rw [encode_eq, road_ascii, narrow_ascii _ _ _ h hz]
  exact wpAny_bind (wpAny_bind (wpAny_pure (wpAny_mkBytes (wpAny_pure ⟨_, rfl, hS⟩) (by rw [Array.size_map]; exact hz))))
section
variable {prog : Program} {w : World} {M : Model} {A : Around} {E : Value → Shared → Prop} {s : Shared} {x : PySem.Str} {b tb : Array UInt8} {t u : Tok}
theorem encode {Q : Value → Shared → Prop} (h : ∀ c ∈ x.cps.toList, c < 128) (hz : x.length ≤ sizeLine) (hq : ∀ t' k, Q (.bytes (x.cps.map (·.toUInt8)) t') { s with toks := k }) :
    wpAny (model prog w) A (call (.builtin "str.encode") [.str x t, .str (PySem.Str.ofString "ascii") u]) Q E s :=
  call_meets F.slot_str_encode (typeIs_str _ _ _) F.entry_str_encode (F.args_str_encode_2 _ _) (meets_encode x t u h hz) (hq _ _)
theorem method_encode {pl : Sem Bool} {Q : Value × List Value → Shared → Prop} (h : Q (.builtin "str.encode", [.str x t]) s) : wpAny M A (getMethod (.str x t) "encode" pl) Q E s := by
  with_reducible exact GM.of (.str x t) (typeIs_str _ _ _) F.slot_str_encode F.type_str_encode GM.noRef h

theorem slot_translate : Slot "bytes" "translate" "bytes.translate" :=
  .of (owner := "bytes") (n := "translate") (by rw [typeLookup_type, builtinLookup_eq_fast]; kernel_rfl) (by decide +kernel) (by decide +kernel) (by decide +kernel)
    (by first | exact .inl (by decide +kernel) | exact .inr (by decide +kernel)) (by rw [isSubtype_type]; kernel_rfl)
theorem type_translate : typeOf (.builtin "bytes.translate") = pure (.type "method_descriptor") := by show builtinType _ = _; rw [builtinType_eq_fast]; kernel_rfl
theorem entry_translate : entryFor table "bytes.translate" = some Builtin.«bytes.translate» := entryFor_of_tree (by kernel_rfl)
theorem args_translate (a c : Value) : argsOk "bytes.translate" ⟨[a, c], []⟩ := by
  unfold argsOk; kernel_rfl
theorem method_translate {pl : Sem Bool} {Q : Value × List Value → Shared → Prop} (h : Q (.builtin "bytes.translate", [.bytes b t]) s) : wpAny M A (getMethod (.bytes b t) "translate" pl) Q E s := by
  with_reducible exact KBd.method_of (.bytes b t) (typeIs_bytes _ _ _) slot_translate type_translate KBd.noRef h
end
def trans (tb b : Array UInt8) : Array UInt8 := b.map fun c => tb.getD c.toNat c
theorem meets_translate (b tb : Array UInt8) (t u : Tok) (h : tb.size = 256) (hz : b.size ≤ sizeLine) :
    Meets («bytes.translate» ⟨[.bytes b t, .bytes tb u], []⟩) (fun _ R s => ∀ t' k, R (.ok (.ret (.bytes (trans tb b) t'))) { s with toks := k }) := by
  refine .of_wp fun prog w A R s hS => ?_
  show wpAny _ _ (Bytes.bytesLike _ (.bytes tb u) >>= fun r => _) _ _ s
  refine wpAny_bind (wpAny_of_eq KBd.like_eq ?_)
  have e1 : (tb.size != 256) = false := by rw [h]; rfl
  simp only [e1]
  have e2 : (b.filter fun x => !(#[] : Array UInt8).contains x) = b := by
    rw [Array.filter_eq_self]; intro a _; simp
  show wpAny _ _ (if (Array.map (fun c => tb.getD c.toNat c) (b.filter fun x => !(#[] : Array UInt8).contains x) == b) = true then _ else _) _ _ s
  rw [e2]
  by_cases e3 : (Array.map (fun c => tb.getD c.toNat c) b == b) = true
  · rw [if_pos e3]
    have e4 : trans tb b = b := eq_of_beq e3
    rw [e4] at hS
    refine wpAny_bind (wpAny_rule ?_)
    show wpAny _ _ (typeOf (.bytes b t) >>= fun r => _) _ _ s
    refine wpAny_bind (wpAny_typeOf (typeIs_bytes s b t) ?_)
    exact wpAny_pure ⟨_, rfl, hS t s.toks⟩
  · rw [if_neg e3]
    exact wpAny_bind (wpAny_mkBytes (wpAny_pure ⟨_, rfl, hS _ _⟩) (by rw [Array.size_map]; exact hz))
theorem translate {prog : Program} {w : World} {A : Around} {E : Value → Shared → Prop} {s : Shared} {b tb : Array UInt8} {t u : Tok} {Q : Value → Shared → Prop} (h : tb.size = 256) (hz : b.size ≤ sizeLine) (hq : ∀ t' k, Q (.bytes (trans tb b) t') { s with toks := k }) :
    wpAny (model prog w) A (call (.builtin "bytes.translate") [.bytes b t, .bytes tb u]) Q E s :=
  call_meets slot_translate (typeIs_bytes _ _ _) entry_translate (args_translate _ _) (meets_translate b tb t u h hz) hq
end
section
open PySem.Calls Builtin LCg

/-- the end of a turn that only makes things: what stood stands -/
def Pend (s : Shared) (h : Heap) (R : Value → Prop) (y : Value) (s' : Shared) : Prop := ∃ h' tk', s' = { s with heap := h', toks := tk' } ∧ h.StaysIn h' ∧ R y
theorem Pend.mk {s : Shared} {h h' : Heap} {tk' : Nat} {R : Value → Prop} {y : Value} (st : h.StaysIn h') (r : R y) : Pend s h R y { s with heap := h', toks := tk' } := ⟨h', tk', rfl, st, r⟩

section
variable {prog : Program} {w : World} {A : Around} {E : Value → Shared → Prop} {s : Shared} {h₀ : Heap} {L : Addr} {m : PySem.Str → Option Value} {env : Env} {elt ct iter : Expr} {x : PySem.Str} {px pos : Pos} {scope : Scope} {cl : List (PySem.Str × Addr)} {news : List (Addr × Obj)} {n : Nat} {P : Nat → Value → Prop} {Fin : List Value → List (Addr × Obj) → Prop} {S : List (Addr × Obj) → Prop}

theorem rest_U (hS : S news) (Rel : Nat → List Value → Prop)
    (turn : ∀ i v ys I oI C oC D m₂ h tk (E' : Value → Shared → Prop), i < n → P i v → Rel i ys → NsObj oC m₂ → m₂ x = some v → Fr h₀ L h m → News h₀ L h ((I, oI) :: (C, oC) :: (D, lst ys) :: news) →
      wpAny (model prog w) A (eval elt (compEnvC scope cl C env)) (Pend s h fun y => Rel (i + 1) (ys ++ [y])) E' { s with heap := h, toks := tk })
    (fin : ∀ ys, Rel n ys → Fin ys news) : ∀ k i ys, i + k = n → Rel i ys → CompRest prog w A h₀ L m env elt x scope cl s S P Fin k i ys news := by
  intro k
  induction k with
  | zero =>
    intro i ys hi hr
    have e : i = n := by omega
    subst e
    exact CompRest.zero (fin ys hr)
  | succ k ih =>
    intro i ys hi hr
    refine CompRest.succ ?_
    intro v I oI C oC D m₂ h tk E' hv hC hx F N off ne
    refine wpAny_mono (turn i v ys I oI C oC D m₂ h tk E' (by omega) hv hr hC hx F N) (fun y s₂ hq => ?_) fun _ _ e => e
    obtain ⟨h', tk', e, st, hr'⟩ := hq
    exact ⟨h', tk', news, e, F.keeps st, N.grown st, off, hS, ih (i + 1) _ (by omega) hr'⟩

theorem rest_T (hS : S news) (Rel : Nat → List Value → Prop)
    (turn : ∀ i v ys I oI C oC D m₂ h tk (E' : Value → Shared → Prop), i < n → P i v → Rel i ys → NsObj oC m₂ → m₂ x = some v → Fr h₀ L h m → News h₀ L h ((I, oI) :: (C, oC) :: (D, lst ys) :: news) →
      wpAny (model prog w) A (isTrue ct (compEnvC scope cl C env) (eval ct (compEnvC scope cl C env))) (fun ok s' => if ok = true then
        wpAny (model prog w) A (eval elt (compEnvC scope cl C env)) (Pend s h fun y => Rel (i + 1) (ys ++ [y])) E' s'
        else Pend s h (fun _ => Rel (i + 1) ys) Value.none s') E' { s with heap := h, toks := tk })
    (fin : ∀ ys, Rel n ys → Fin ys news) : ∀ k i ys, i + k = n → Rel i ys → LCt.CompRestT prog w A h₀ L m env ct elt x scope cl s S P Fin k i ys news := by
  intro k
  induction k with
  | zero =>
    intro i ys hi hr
    have e : i = n := by omega
    subst e
    exact LCt.CompRestT.zero (fin ys hr)
  | succ k ih =>
    intro i ys hi hr
    refine LCt.CompRestT.succ ?_
    intro v I oI C oC D m₂ h tk E' hv hC hx F N off ne
    refine wpAny_mono (turn i v ys I oI C oC D m₂ h tk E' (by omega) hv hr hC hx F N) (fun ok s₂ hq => ?_) fun _ _ e => e
    cases ok with
    | true =>
      simp only [if_true] at hq ⊢
      refine wpAny_mono hq (fun y s₃ hq => ?_) fun _ _ e => e
      obtain ⟨h', tk', e, st, hr'⟩ := hq
      exact ⟨h', tk', news, e, F.keeps st, N.grown st, off, hS, ih (i + 1) _ (by omega) hr'⟩
    | false =>
      simp only [Bool.false_eq_true, if_false] at hq ⊢
      obtain ⟨h', tk', e, st, hr'⟩ := hq
      exact ⟨h', tk', news, e, F.keeps st, N.grown st, off, hS, ih (i + 1) _ (by omega) hr'⟩

/-- [elt for x in (bytes)] -/
theorem compB {b : Array UInt8} {t : Tok} {Q : Value → Shared → Prop} (Rel : Nat → List Value → Prop) (hh : A.handled = none) (F : Fr h₀ L s.heap m) (N : News h₀ L s.heap news)
    (hclos : closureFor scope env = pure cl) (hcell : ∀ y ∈ scope.names, y.2 ≠ .cell) (hkind : scope.kind = .function)
    (hnames : ∀ y ∈ scope.names, y.2 = .local → scope.names.lookup y.1 = some .local) (hx : scope.names.lookup x = some .local)
    (hi : wpAny (model prog w) A (eval iter env) (fun xv s₁ => xv = .bytes b t ∧ s₁ = s) E s) (hsz : b.size ≤ sizeLine) (h0 : Rel 0 [])
    (turn : ∀ s₂ i (c : UInt8) u ys I oI C oC D m₂ h tk (E' : Value → Shared → Prop), b[i]? = some c → 0 ≤ (c.toNat : Int) → (c.toNat : Int) < 256 → Rel i ys → NsObj oC m₂ → m₂ x = some (.int (c.toNat : Int) u) → Fr h₀ L h m → News h₀ L h ((I, oI) :: (C, oC) :: (D, lst ys) :: news) →
      wpAny (model prog w) A (eval elt (compEnvC scope cl C env)) (Pend s₂ h fun y => Rel (i + 1) (ys ++ [y])) E' { s₂ with heap := h, toks := tk })
    (fin : ∀ D ys h tk, Rel b.size ys → Fr h₀ L h m → News h₀ L h ((D, lst ys) :: news) → Q (.ref D) { s with heap := h, toks := tk })
    (hs : ∀ x, foldedSetIterable iter env x = pure x := by intro _; rfl) :
    wpAny (model prog w) A (eval (.ListComp elt [⟨.Name x px, iter, [], 0⟩] scope pos) env) Q E s := by
  rw [eval_ListComp]
  refine wpAny_comprehension_free (use := none) rfl hs hclos hkind hnames (wpAny_mono hi (fun xv s₁ h₁ => ?_) fun _ _ e => e)
  obtain ⟨rfl, rfl⟩ := h₁
  refine KBw.pyIter_bytes ?_
  have up : ∀ b' o, s₁.heap.get? b' = some o → (s₁.heap.push { cls := .type "bytes_iterator", data := .fields #[.bytes b t, .int 0 0] }).get? b' = some o := fun b o e => Heap.get?_push_of_some _ e
  refine block_U (S := fun _ => True) (Fin := fun ys nw => nw = news ∧ Rel b.size ys) (KBw.walks hh s₁.heap.objs.size b t) hsz (fun i h st => by obtain ⟨o, e, _⟩ := st; exact ⟨o, e⟩) (fun i h h' o nw st e e' _ _ _ => by obtain ⟨o', q, r⟩ := st; rw [e] at q; cases q; exact ⟨o, e', r⟩) hcell hkind hx ⟨_, Heap.get?_push_size _ rfl, rfl, rfl⟩ (fun b hb => ?_)
    (F.keeps up) (N.grown up) (Nat.ne_of_lt F.ns.lt) (next_is_new F) (fun p hp => Nat.ne_of_lt (Heap.lt_size (N p hp).1)) trivial (rest_U trivial Rel (fun i v ys I oI C oC D m₂ h tk E' _ hv => by obtain ⟨c, u, hc, rfl⟩ := hv; exact turn _ i c u ys I oI C oC D m₂ h tk E' hc (by omega) (by have := c.toNat_lt; omega)) (fun ys hr => ⟨rfl, hr⟩) _ 0 [] (by omega) h0) ?_
  · rw [List.mem_singleton.mp hb]
    show s₁.heap.objs.size < (s₁.heap.push _).objs.size
    rw [Heap.size_push]; exact Nat.lt_succ_self _
  · intro D C h tk m' ys news' F' N' o1 hn hC₀ hD₀ hCL hDL hCD offC fin'
    obtain ⟨rfl, hr⟩ := fin'
    refine ⟨m', hn, fun h'' hs'' => fin D ys h'' tk hr (F'.change hs'' hCL hC₀) (fun p hp => ?_)⟩
    refine ⟨hs''.extBut _ _ ?_ (N' p hp).1, (N' p hp).2⟩
    rcases List.mem_cons.mp hp with rfl | hp
    · exact Ne.symm hCD
    · exact offC p hp

/-- [elt for x in (text) if ct] -/
theorem compT {z : PySem.Str} {t : Tok} {Q : Value → Shared → Prop} (Rel : Nat → List Value → Prop) (hh : A.handled = none) (F : Fr h₀ L s.heap m) (N : News h₀ L s.heap news)
    (hclos : closureFor scope env = pure cl) (hcell : ∀ y ∈ scope.names, y.2 ≠ .cell) (hkind : scope.kind = .function)
    (hnames : ∀ y ∈ scope.names, y.2 = .local → scope.names.lookup y.1 = some .local) (hx : scope.names.lookup x = some .local)
    (hi : wpAny (model prog w) A (eval iter env) (fun xv s₁ => xv = .str z t ∧ s₁ = s) E s) (ha : z.cps.all (· < 128) = true) (hsz : z.cps.size ≤ sizeLine) (h0 : Rel 0 [])
    (turn : ∀ s₂ i (c : Nat) u ys I oI C oC D m₂ h tk (E' : Value → Shared → Prop), z.cps[i]? = some c → Rel i ys → NsObj oC m₂ → m₂ x = some (.str ⟨#[c]⟩ u) → Fr h₀ L h m → News h₀ L h ((I, oI) :: (C, oC) :: (D, lst ys) :: news) →
      wpAny (model prog w) A (isTrue ct (compEnvC scope cl C env) (eval ct (compEnvC scope cl C env))) (fun ok s' => if ok = true then
        wpAny (model prog w) A (eval elt (compEnvC scope cl C env)) (Pend s₂ h fun y => Rel (i + 1) (ys ++ [y])) E' s'
        else Pend s₂ h (fun _ => Rel (i + 1) ys) Value.none s') E' { s₂ with heap := h, toks := tk })
    (fin : ∀ D ys h tk, Rel z.cps.size ys → Fr h₀ L h m → News h₀ L h ((D, lst ys) :: news) → Q (.ref D) { s with heap := h, toks := tk })
    (hs : ∀ x, foldedSetIterable iter env x = pure x := by intro _; rfl) :
    wpAny (model prog w) A (eval (.ListComp elt [⟨.Name x px, iter, [ct], 0⟩] scope pos) env) Q E s := by
  rw [eval_ListComp]
  refine wpAny_comprehension_free (use := none) rfl hs hclos hkind hnames (wpAny_mono hi (fun xv s₁ h₁ => ?_) fun _ _ e => e)
  obtain ⟨rfl, rfl⟩ := h₁
  refine wpAny_pyIter_ascii ha ?_
  have up : ∀ b' o, s₁.heap.get? b' = some o → (s₁.heap.push { cls := .type "str_ascii_iterator", data := .fields #[.str z t, .int 0 0] }).get? b' = some o := fun b o e => Heap.get?_push_of_some _ e
  refine LCt.block_T (S := fun _ => True) (Fin := fun ys nw => nw = news ∧ Rel z.cps.size ys) (Walks.strAscii hh s₁.heap.objs.size z t) hsz (fun i h st => by obtain ⟨o, e, _⟩ := st; exact ⟨o, e⟩) (fun i h h' o nw st e e' _ _ _ => by obtain ⟨o', q, r⟩ := st; rw [e] at q; cases q; exact ⟨o, e', r⟩) hcell hkind hx ⟨_, Heap.get?_push_size _ rfl, rfl, rfl⟩ (fun b hb => ?_)
    (F.keeps up) (N.grown up) (Nat.ne_of_lt F.ns.lt) (next_is_new F) (fun p hp => Nat.ne_of_lt (Heap.lt_size (N p hp).1)) trivial (rest_T trivial Rel (fun i v ys I oI C oC D m₂ h tk E' _ hv => by obtain ⟨c, u, hc, rfl⟩ := hv; exact turn _ i c u ys I oI C oC D m₂ h tk E' hc) (fun ys hr => ⟨rfl, hr⟩) _ 0 [] (by omega) h0) ?_
  · rw [List.mem_singleton.mp hb]
    show s₁.heap.objs.size < (s₁.heap.push _).objs.size
    rw [Heap.size_push]; exact Nat.lt_succ_self _
  · intro D C h tk m' ys news' F' N' o1 hn hC₀ hD₀ hCL hDL hCD offC fin'
    obtain ⟨rfl, hr⟩ := fin'
    refine ⟨m', hn, fun h'' hs'' => fin D ys h'' tk hr (F'.change hs'' hCL hC₀) (fun p hp => ?_)⟩
    refine ⟨hs''.extBut _ _ ?_ (N' p hp).1, (N' p hp).2⟩
    rcases List.mem_cons.mp hp with rfl | hp
    · exact Ne.symm hCD
    · exact offC p hp
end
end
section
open PySem.Calls Builtin
section
variable {prog : Program} {w : World} {A : Around} {E : Value → Shared → Prop} {s : Shared} {Q : Value → Shared → Prop} {x y r n : Int} {t u : Tok}
theorem andW (e : Builtin.bitAnd x y = r) (h : ∀ t' k, Q (.int r t') { s with toks := k }) : wpAny (model prog w) A (binaryOp .BitAnd (.int x t) (.int y u)) Q E s := and_int (by rw [e]; exact h _ _)
theorem and_low (k : Nat) (a b : Int) (h0 : 0 ≤ b) (h1 : b < 2 ^ k) : Builtin.bitAnd (a * 2 ^ k) b = 0 := by
  have e : Builtin.bitAnd b (2 ^ k - 1) = b := by rw [kbt_mask]; exact Int.emod_eq_of_lt h0 h1
  induction k generalizing a b with
  | zero =>
    have : b = 0 := by simp at h1; omega
    subst this
    rw [bitAnd_comm]
    have := bitAnd_range (a * 2 ^ 0) (y := 0) (Int.le_refl 0)
    rw [bitAnd_comm]; omega
  | succ k ih =>
    rw [kbt_halves]
    have hp : (2 : Int) ^ (k + 1) = 2 * 2 ^ k := by rw [Int.pow_succ, Int.mul_comm]
    have e1 : a * 2 ^ (k + 1) / 2 = a * 2 ^ k := by rw [hp, ← Int.mul_assoc, Int.mul_comm a 2, Int.mul_assoc]; exact Int.mul_ediv_cancel_left _ (by decide)
    have e2 : a * 2 ^ (k + 1) % 2 = 0 := by rw [hp, ← Int.mul_assoc, Int.mul_comm a 2, Int.mul_assoc]; exact Int.mul_emod_right _ _
    rw [e1, e2, ih a (b / 2) (by omega) (by omega) (by rw [kbt_mask]; exact Int.emod_eq_of_lt (by omega) (by omega))]
    simp
theorem or_low (k : Nat) {a b : Int} (h0 : 0 ≤ b) (h1 : b < 2 ^ k) : Builtin.bitOr (a * 2 ^ k) b = a * 2 ^ k + b := by
  rw [bitOr_and, and_low k a b h0 h1]; omega
theorem orW (e : Builtin.bitOr x y = r) (h : ∀ t' k, Q (.int r t') { s with toks := k }) : wpAny (model prog w) A (binaryOp .BitOr (.int x t) (.int y u)) Q E s := or_int (by rw [e]; exact h _ _)
theorem shlW (k : Nat) (e : n = (k : Int)) (hk : k ≤ 64) (hx0 : 0 ≤ x) (hx : x < 1000000) (h : ∀ t' k', Q (.int (x * 2 ^ k) t') { s with toks := k' }) : wpAny (model prog w) A (binaryOp .LShift (.int x t) (.int n u)) Q E s := by
  subst e
  refine lshift_int_small (by omega) (by omega) (by omega) ?_
  rw [Int.toNat_natCast]
  exact h _ _
theorem shrW (k : Nat) (e : n = (k : Int)) (h : ∀ t' k', Q (.int (x / 2 ^ k) t') { s with toks := k' }) : wpAny (model prog w) A (binaryOp .RShift (.int x t) (.int n u)) Q E s := by
  subst e
  refine rshift_int (by omega) ?_
  rw [Int.toNat_natCast, Int.fdiv_eq_ediv_of_nonneg _ (Int.le_of_lt (kbt_pos k))]
  exact h _ _
theorem bytesW {l L : Addr} {h₀ : Heap} {news : List (Addr × Obj)} {vs : List Value} {ns : List Int} {c : Nat} {m : PySem.Str → Option Value} (F : Fr h₀ L s.heap m) (N : News h₀ L s.heap news) (hm : (l, W.listOf vs.toArray c) ∈ news) (hi : IntsAre vs ns) (hr : ∀ n ∈ ns, 0 ≤ n ∧ n < 256) (hz : ns.length ≤ 5000000) (hh : A.handled = none)
    (h : ∀ h' t' k, Fr h₀ L h' m → News h₀ L h' news → Q (.bytes (byteArr ns) t') { s with heap := h', toks := k }) : wpAny (model prog w) A (call (.type "bytes") [.ref l]) Q E s := by
  refine call_bytes_ints (vs := vs) ⟨_, (N _ hm).1, rfl, _, rfl⟩ hi hr (by rw [hi.length, PySem.sizeLine_eq]; omega) hh ?_
  intro h' t' k hk
  exact h h' t' k (F.keeps hk) (N.grown hk)
theorem itemW {b : Array UInt8} {ks : List Int} {i : Int} {ui : Tok} {value slice : Expr} (hk : KBw.bInts b = ks) (hfit : ks.length ≤ 1000) (h0 : 0 ≤ i) (h1 : i < (ks.length : Int)) (h : ∀ t' k, Q (.int (ks.getD i.toNat 0) t') { s with toks := k })
    (hs : subscripted slice false (.bytes b t) (.int i ui) = operate [.bytes b t, .int i ui] (getItem (.bytes b t) (.int i ui)) := by with_unfolding_all rfl)
    (ht : ∀ r, letTemporaryGo value (.bytes b t) r = pure () := by intro _; with_unfolding_all rfl) : wpAny (model prog w) A (subscriptTail value slice (.bytes b t) (.int i ui)) Q E s :=
  KBw.item_K hk (by omega) h0 h1 (fun t' k _ _ => h t' k) hs ht
end
end
section
open PySem.Calls
section
variable {prog : Program} {w : World} {A : Around} {E : Value → Shared → Prop} {s : Shared} {env : Env} {h₀ : Heap} {x : Str} {body : List Stmt} {Q : Flow → Shared → Prop}
/-- a loop over a range by steps -/
theorem kst_step {σ : Type} {r : Addr} {a₀ b₀ st : Int} {t₀ u₀ v₀ : Tok} {n : Nat} {m₀ : Str → Option Value} (Led : σ → List (Addr × Obj)) (ps : σ → List (Str × Value)) (Facts : σ → Prop) (stored : List Str) (P : List Int → σ → Prop) (c₀ : σ)
    (hh : A.handled = none) (hr : IsRange s.heap r a₀ b₀ st t₀ u₀ v₀) (hsmall : Builtin.Range.small a₀ b₀ st = true) (hn : Builtin.Range.rangeSize a₀ b₀ st = (n : Int)) (F : Fr h₀ env.locals s.heap m₀) (N : News h₀ env.locals s.heap (Led c₀)) (hf : Facts c₀) (hk : ∀ p ∈ ps c₀, m₀ p.1 = some p.2) (hp : P [] c₀)
    (turn : ∀ (c : σ) (pre : List Int) (k : Int) t (u : Str → Option Value) h tk own, k = a₀ + (pre.length : Int) * st → pre.length < n → OwnOff own ((Led c₀).map (·.1)) → Facts c → P pre c →
      Fr h₀ env.locals h (fun y => if y = x then some (.int k t) else kstB (fun z => if stored.contains z then u z else m₀ z) (ps c) y) → News h₀ env.locals h (Led c ++ own) →
      wpAny (model prog w) A (execs body env) (InvPostN h₀ env.locals (KstS Led ps Facts x stored m₀ P (pre ++ [(pre.length : Int)])) own ((Led c₀).map (·.1)) { s with heap := h, toks := tk } Q) E { s with heap := h, toks := tk })
    (done : ∀ (c : σ) (pre : List Int) (u : Str → Option Value) h tk, pre.length = n → Facts c → P pre c → Fr h₀ env.locals h (fun y => if y = x then u y else kstB (fun z => if stored.contains z then u z else m₀ z) (ps c) y) → News h₀ env.locals h (Led c) → Q .next { s with heap := h, toks := tk }) :
    wpAny (model prog w) A (pyIter (.ref r)) (fun it s₂ => LoopAtV prog w A h₀ env x body Q E it s₂) E s := by
  refine wpAny_pyIter_range hr hsmall ?_
  have W : Walks prog w A s.heap.objs.size [s.heap.objs.size] [s.heap.objs.size] n (fun i v => i < n ∧ ∃ t, v = .int (a₀ + i * st) t)
      (fun i h => IsRangeIter h s.heap.objs.size (a₀ + (i : Nat) * st) ((n : Int) - (i : Nat)) st) := (Walks.range hh _ a₀ st n).bound
  refine loop_invN (fun i m nx => KstS Led ps Facts x stored m₀ P ((rangeKs 0 n).take i) m nx) W ?_ ?_ ?_ ?_ (by show IsRangeIter _ _ _ _ _; rw [hn]; simpa using Heap.get?_push_size _ rfl) (F.push _) (fun p hp => ⟨Heap.get?_push_of_some _ (N p hp).1, (N p hp).2⟩) ⟨c₀, rfl, hf, hk, fun _ _ _ _ => rfl, by simpa using hp⟩ ?_ ?_
  · intro hm
    exact absurd F.ns.lt ((List.mem_singleton.mp hm) ▸ Nat.lt_irrefl _)
  · intro b hb
    rw [List.mem_singleton.mp hb]
    exact next_is_new F
  · intro p hp hI
    exact absurd (Heap.lt_size (N p hp).1) ((List.mem_singleton.mp hI) ▸ Nat.lt_irrefl _)
  · intro p hp hI
    exact absurd (Heap.lt_size (N p hp).1) ((List.mem_singleton.mp hI) ▸ Nat.lt_irrefl _)
  · rintro i v m₁ nx h tk own hi ⟨_, t, rfl⟩ _ hoff ⟨c, rfl, hf', h1, h2, hp'⟩ F₁ N₁
    have hk' : (rangeKs 0 n)[i]? = some ((i : Int)) := by simp [rangeKs, hi]
    have hlen : ((rangeKs 0 n).take i).length = i := by rw [List.length_take, rangeKs_length]; omega
    have hs : (rangeKs 0 n).take (i + 1) = (rangeKs 0 n).take i ++ [(((rangeKs 0 n).take i).length : Int)] := by rw [hlen, List.take_add_one, hk']; rfl
    rw [hs]
    exact turn c _ _ t m₁ h tk own (by rw [hlen]) (by rw [hlen]; exact hi) hoff hf' hp' (kst_fr h1 h2 F₁) N₁
  · rintro m₁ nx h tk ⟨c, rfl, hf', h1, h2, hp'⟩ F₁ N₁
    have hl : ((rangeKs 0 n).take n).length = n := by rw [List.length_take, rangeKs_length]; omega
    exact done c _ m₁ h tk hl hf' hp' (kst_frOut h1 h2 F₁) N₁
end
section
variable {prog : Program} {w : World} {A : Around} {E : Value → Shared → Prop} {s : Shared} {Q : Value → Shared → Prop}
theorem getD_at {ns : List Int} {i : Nat} (h : i < ns.length) : ns[i]? = some (ns.getD i 0) := by
  rw [List.getElem?_eq_getElem h, List.getD_eq_getElem?_getD, List.getElem?_eq_getElem h]; rfl
theorem getD_bound {ns : List Int} {i : Nat} (h : i < ns.length) (hb : ∀ n ∈ ns, 0 ≤ n ∧ n < 64) : 0 ≤ ns.getD i 0 ∧ ns.getD i 0 < 64 := hb _ (List.mem_of_getElem? (getD_at h))
theorem itemL {l : Addr} {vs : List Value} {ns : List Int} {i : Int} {u : Tok} {value slice : PySem.Expr} (hl : s.heap.IsList l vs.toArray) (hi : IntsAre vs ns) (hb : ∀ n ∈ ns, 0 ≤ n ∧ n < 64) (h0 : 0 ≤ i) (h1 : i < (ns.length : Int)) (hz : ns.length ≤ 1000000)
    (h : ∀ t, 0 ≤ ns.getD i.toNat 0 → ns.getD i.toNat 0 < 64 → Q (.int (ns.getD i.toNat 0) t) s)
    (hs : subscripted slice false (.ref l) (.int i u) = operate [.ref l, .int i u] (getItem (.ref l) (.int i u)) := by with_unfolding_all rfl) :
    wpAny (model prog w) A (subscriptTail value slice (.ref l) (.int i u)) Q E s := by
  have hlt : i.toNat < ns.length := by omega
  obtain ⟨t, ht⟩ := hi.get i.toNat _ (getD_at hlt)
  have b := getD_bound hlt hb
  exact tail_any hl.typeIs slot_list_getitem.lookup (wpAny_getItem_list hl h0 (by omega) (by simpa using ht) (h t b.1 b.2)) hs
section
variable {q b k : Int} {t u : Tok}
theorem pow_small : ∀ j : Nat, j ≤ 3 → (1 : Int) ≤ 128 ^ j ∧ (128 : Int) ^ j ≤ 2097152 := by decide
theorem powW (h0 : 0 ≤ k) (h3 : k ≤ 3) (h : ∀ d t' k', 1 ≤ d → d ≤ 2097152 → Q (.int d t') { s with toks := k' }) : wpAny (model prog w) A (binaryOp .Pow (.int 128 t) (.int k u)) Q E s := by
  have b := pow_small k.toNat (by omega)
  exact pow_int_small h0 (by omega) (by decide) (h _ _ _ b.1 b.2)
theorem log_small : ∀ n : Nat, n ≤ 2097152 → n.log2 < 9000 := by
  intro n hn
  rcases Nat.eq_zero_or_pos n with h | h
  · subst h; decide
  · exact (Nat.log2_lt (by omega)).mpr (Nat.lt_of_le_of_lt hn (Nat.lt_of_lt_of_le (by decide : 2097152 < 2 ^ 22) (Nat.pow_le_pow_right (by decide) (by decide))))
theorem fdivW (h0 : 1 ≤ b) (h1 : b ≤ 2097152) (h : ∀ r t' k', Q (.int r t') { s with toks := k' }) : wpAny (model prog w) A (binaryOp .FloorDiv (.int q t) (.int b u)) Q E s :=
  floordiv_int (by omega) (h _ _ _) (Or.inl (PyProof.noPylong_of_log2 (log_small _ (by omega))))
theorem modW (n : Int) (h0 : 0 < n) (h1 : n ≤ 2097152) (h : ∀ r t' k', 0 ≤ r → r < n → Q (.int r t') { s with toks := k' }) : wpAny (model prog w) A (binaryOp .Mod (.int q t) (.int n u)) Q E s := by
  have e : q.fmod n = q % n := Int.fmod_eq_emod_of_nonneg _ (by omega)
  exact mod_int' (by omega) (h _ _ _ (by rw [e]; exact Int.emod_nonneg _ (by omega)) (by rw [e]; exact Int.emod_lt_of_pos _ h0))
end
end
end
section
/-! the plain law, part 1: encoding octets as figures -/
def b64s : List Int := [65, 66, 67, 68, 69, 70, 71, 72, 73, 74, 75, 76, 77, 78, 79, 80, 81, 82, 83, 84, 85, 86, 87, 88, 89, 90, 97, 98, 99, 100, 101, 102, 103, 104, 105, 106, 107, 108, 109, 110, 111, 112, 113, 114, 115, 116, 117, 118, 119, 120, 121, 122, 48, 49, 50, 51, 52, 53, 54, 55, 56, 57, 43, 47]
def sgn (i : Int) : Int := b64s.getD i.toNat 0
def encL : List Int → List Int
  | b0 :: b1 :: b2 :: r => b0 / 4 :: (b0 % 4 * 16 + b1 / 16) :: (b1 % 16 * 4 + b2 / 64) :: b2 % 64 :: encL r
  | [b0, b1] => [b0 / 4, b0 % 4 * 16 + b1 / 16]
  | [b0] => [b0 / 4]
  | [] => []
theorem encL_snoc (b : Int) : ∀ pre : List Int,
    (pre.length % 3 = 0 → encL (pre ++ [b]) = encL pre ++ [b / 4]) ∧
    (pre.length % 3 = 1 → encL (pre ++ [b]) = encL pre ++ [pre.getLastD 0 % 4 * 16 + b / 16]) ∧
    (pre.length % 3 = 2 → encL (pre ++ [b]) = encL pre ++ [pre.getLastD 0 % 16 * 4 + b / 64, b % 64])
  | [] => ⟨fun _ => rfl, fun h => by simp at h, fun h => by simp at h⟩
  | [b0] => ⟨fun h => by simp at h, fun _ => rfl, fun h => by simp at h⟩
  | [b0, b1] => ⟨fun h => by simp at h, fun h => by simp at h, fun _ => rfl⟩
  | b0 :: b1 :: b2 :: r => by
    have ih := encL_snoc b r
    have hl : (b0 :: b1 :: b2 :: r).length % 3 = r.length % 3 := by simp only [List.length_cons]; omega
    have e : ∀ x, encL (b0 :: b1 :: b2 :: (r ++ x)) = b0 / 4 :: (b0 % 4 * 16 + b1 / 16) :: (b1 % 16 * 4 + b2 / 64) :: b2 % 64 :: encL (r ++ x) := fun _ => rfl
    have e0 : encL (b0 :: b1 :: b2 :: r) = b0 / 4 :: (b0 % 4 * 16 + b1 / 16) :: (b1 % 16 * 4 + b2 / 64) :: b2 % 64 :: encL r := rfl
    have gl : ∀ x y : Int, r ≠ [] → (b0 :: b1 :: b2 :: r).getLastD 0 = r.getLastD 0 := fun _ _ hr => by
      cases r with
      | nil => exact absurd rfl hr
      | cons c q => simp [List.getLastD]
    rw [hl, e0]
    simp only [List.cons_append]
    refine ⟨fun h => ?_, fun h => ?_, fun h => ?_⟩
    · rw [e, ih.1 h]
    · have hr : r ≠ [] := by rintro rfl; simp at h
      rw [e, ih.2.1 h, gl 0 0 hr]
    · have hr : r ≠ [] := by rintro rfl; simp at h
      rw [e, ih.2.2 h, gl 0 0 hr]
theorem encL_len : ∀ l : List Int, (encL l).length ≤ 2 * l.length
  | [] => by simp [encL]
  | [_] => by simp [encL]
  | [_, _] => by simp [encL]
  | b0 :: b1 :: b2 :: r => by
    have := encL_len r
    simp only [encL, List.length_cons]
    omega
def InvB (pre : List Int) (lc lb : Int) (out : List Int) : Prop := 0 ≤ lc ∧ lc ≤ 65535 ∧ lb = 2 * ((pre.length : Int) % 3) ∧ (pre ≠ [] → lc % 256 = pre.getLastD 0) ∧ out.length ≤ 2 * pre.length ∧ out = (encL pre).map sgn
theorem invB0 : InvB [] 0 0 [] := by refine ⟨by omega, by omega, by simp, by simp, by simp, rfl⟩
theorem lastD_snoc (pre : List Int) (b : Int) : (pre ++ [b]).getLastD 0 = b := by simp [List.getLastD_eq_getLast?]
theorem lc_next (lc b : Int) (h0 : 0 ≤ b) (h1 : b < 256) : 0 ≤ (lc * 2 ^ 8 + b) % 65536 ∧ (lc * 2 ^ 8 + b) % 65536 ≤ 65535 ∧ (lc * 2 ^ 8 + b) % 65536 % 256 = b := by omega
theorem invB_turn {pre : List Int} {b lc lb lb' : Int} {out new : List Int} (h0 : 0 ≤ b) (h1 : b < 256) (hb : lb' = 2 * (((pre.length : Int) + 1) % 3)) (ho : out = (encL pre).map sgn) (hn : (encL (pre ++ [b])).map sgn = (encL pre).map sgn ++ new) : InvB (pre ++ [b]) ((lc * 2 ^ 8 + b) % 65536) lb' (out ++ new) := by
  have n := lc_next lc b h0 h1
  refine ⟨n.1, n.2.1, by simp only [List.length_append, List.length_singleton]; omega, fun _ => by rw [lastD_snoc]; exact n.2.2, ?_, by rw [hn, ho]⟩
  rw [ho, ← hn, List.length_map]
  exact encL_len _
theorem invB1 {pre : List Int} {b lc : Int} {out : List Int} (h0 : 0 ≤ b) (h1 : b < 256) (i3 : 0 = 2 * ((pre.length : Int) % 3)) (i6 : out = (encL pre).map sgn) :
    InvB (pre ++ [b]) ((lc * 2 ^ 8 + b) % 65536) (0 + 8 - 6) (out ++ [b64s.getD ((lc * 2 ^ 8 + b) % 65536 / 2 ^ 2 % 64).toNat 0]) := by
  refine invB_turn (lb := 0) h0 h1 (by omega) i6 ?_
  rw [(encL_snoc b pre).1 (by omega), List.map_append]
  show _ ++ [sgn (b / 4)] = _ ++ [sgn ((lc * 2 ^ 8 + b) % 65536 / 2 ^ 2 % 64)]
  rw [show (lc * 2 ^ 8 + b) % 65536 / 2 ^ 2 % 64 = b / 4 by omega]
theorem invB2 {pre : List Int} {b lc : Int} {out : List Int} (h0 : 0 ≤ b) (h1 : b < 256) (i3 : 2 = 2 * ((pre.length : Int) % 3)) (i4 : pre ≠ [] → lc % 256 = pre.getLastD 0) (i6 : out = (encL pre).map sgn) :
    InvB (pre ++ [b]) ((lc * 2 ^ 8 + b) % 65536) (2 + 8 - 6) (out ++ [b64s.getD ((lc * 2 ^ 8 + b) % 65536 / 2 ^ 4 % 64).toNat 0]) := by
  have hr : pre ≠ [] := by rintro rfl; simp at i3
  have i4 := i4 hr
  refine invB_turn (lb := 0) h0 h1 (by omega) i6 ?_
  rw [(encL_snoc b pre).2.1 (by omega), List.map_append]
  show _ ++ [sgn (pre.getLastD 0 % 4 * 16 + b / 16)] = _ ++ [sgn ((lc * 2 ^ 8 + b) % 65536 / 2 ^ 4 % 64)]
  rw [show (lc * 2 ^ 8 + b) % 65536 / 2 ^ 4 % 64 = pre.getLastD 0 % 4 * 16 + b / 16 by omega]
theorem invB3 {pre : List Int} {b lc : Int} {out : List Int} (h0 : 0 ≤ b) (h1 : b < 256) (i3 : 4 = 2 * ((pre.length : Int) % 3)) (i4 : pre ≠ [] → lc % 256 = pre.getLastD 0) (i6 : out = (encL pre).map sgn) :
    InvB (pre ++ [b]) ((lc * 2 ^ 8 + b) % 65536) (4 + 8 - 6 - 6) (out ++ [b64s.getD ((lc * 2 ^ 8 + b) % 65536 / 2 ^ 6 % 64).toNat 0] ++ [b64s.getD ((lc * 2 ^ 8 + b) % 65536 / 2 ^ 0 % 64).toNat 0]) := by
  have hr : pre ≠ [] := by rintro rfl; simp at i3
  have i4 := i4 hr
  rw [List.append_assoc]
  refine invB_turn (lb := 0) h0 h1 (by omega) i6 ?_
  rw [(encL_snoc b pre).2.2 (by omega), List.map_append]
  show _ ++ [sgn (pre.getLastD 0 % 16 * 4 + b / 64), sgn (b % 64)] = _ ++ [sgn ((lc * 2 ^ 8 + b) % 65536 / 2 ^ 6 % 64), sgn ((lc * 2 ^ 8 + b) % 65536 / 2 ^ 0 % 64)]
  rw [show (lc * 2 ^ 8 + b) % 65536 / 2 ^ 6 % 64 = pre.getLastD 0 % 16 * 4 + b / 64 by omega, show (lc * 2 ^ 8 + b) % 65536 / 2 ^ 0 % 64 = b % 64 by omega]
theorem b64s_in (i : Nat) : 0 ≤ b64s.getD i 0 ∧ b64s.getD i 0 < 256 := by
  by_cases h : i < 64
  · exact (by decide : ∀ i, i < 64 → 0 ≤ b64s.getD i 0 ∧ b64s.getD i 0 < 256) i h
  · have : b64s.getD i 0 = 0 := by
      rw [List.getD_eq_getElem?_getD, List.getElem?_eq_none (by show 64 ≤ i; omega)]; rfl
    omega
theorem sgn_in {l : List Int} : ∀ n ∈ l.map sgn, 0 ≤ n ∧ n < 256 := by
  intro n hn
  obtain ⟨i, _, rfl⟩ := List.mem_map.mp hn
  exact b64s_in _
end
section
/-! the plain law, part 2: decoding codes -/
def b64v (c : Int) : Int := if 65 ≤ c ∧ c ≤ 90 then c - 65 else if 97 ≤ c ∧ c ≤ 122 then c - 71 else if 48 ≤ c ∧ c ≤ 57 then c + 4 else if c = 43 then 62 else if c = 47 then 63 else 64
theorem b64v_in (c : Int) : 0 ≤ b64v c ∧ b64v c ≤ 64 := by
  unfold b64v
  repeat' split
  all_goals omega
/-- the figures of the codes that are figures -/
def figs (l : List Int) : List Int := (l.map b64v).filter (fun v => decide (v < 64))
theorem figs_snoc_in {pre : List Int} {n : Int} (h : b64v n < 64) : figs (pre ++ [n]) = figs pre ++ [b64v n] := by
  simp [figs, List.filter_append, h]
theorem figs_snoc_out {pre : List Int} {n : Int} (h : 64 ≤ b64v n) : figs (pre ++ [n]) = figs pre := by
  have : ¬ b64v n < 64 := by omega
  simp [figs, List.filter_append, this]
theorem figs_len (l : List Int) : (figs l).length ≤ l.length := by
  unfold figs
  exact Nat.le_trans (List.length_filter_le _ _) (by simp)
/-- the octets of figures, as far as they are whole -/
def decL : List Int → List Int
  | f0 :: f1 :: f2 :: f3 :: r => (f0 * 4 + f1 / 16) :: (f1 % 16 * 16 + f2 / 4) :: (f2 % 4 * 64 + f3) :: decL r
  | [f0, f1, f2] => [f0 * 4 + f1 / 16, f1 % 16 * 16 + f2 / 4]
  | [f0, f1] => [f0 * 4 + f1 / 16]
  | [_] => []
  | [] => []
/-- what is left over -/
def leftL : List Int → Int
  | _ :: _ :: _ :: _ :: r => leftL r
  | [_, _, f2] => f2 % 4
  | [_, f1] => f1 % 16
  | [f0] => f0
  | [] => 0
theorem dec_snoc (v : Int) : ∀ l : List Int,
    (l.length % 4 = 0 → decL (l ++ [v]) = decL l ∧ leftL (l ++ [v]) = v ∧ leftL l = 0) ∧
    (l.length % 4 = 1 → decL (l ++ [v]) = decL l ++ [leftL l * 4 + v / 16] ∧ leftL (l ++ [v]) = v % 16) ∧
    (l.length % 4 = 2 → decL (l ++ [v]) = decL l ++ [leftL l * 16 + v / 4] ∧ leftL (l ++ [v]) = v % 4) ∧
    (l.length % 4 = 3 → decL (l ++ [v]) = decL l ++ [leftL l * 64 + v] ∧ leftL (l ++ [v]) = 0)
  | [] => ⟨fun _ => ⟨rfl, rfl, rfl⟩, fun h => by simp at h, fun h => by simp at h, fun h => by simp at h⟩
  | [f0] => ⟨fun h => by simp at h, fun _ => ⟨rfl, rfl⟩, fun h => by simp at h, fun h => by simp at h⟩
  | [f0, f1] => ⟨fun h => by simp at h, fun h => by simp at h, fun _ => ⟨rfl, rfl⟩, fun h => by simp at h⟩
  | [f0, f1, f2] => ⟨fun h => by simp at h, fun h => by simp at h, fun h => by simp at h, fun _ => ⟨rfl, rfl⟩⟩
  | f0 :: f1 :: f2 :: f3 :: r => by
    have ih := dec_snoc v r
    have hl : (f0 :: f1 :: f2 :: f3 :: r).length % 4 = r.length % 4 := by simp only [List.length_cons]; omega
    have e : ∀ x, decL (f0 :: f1 :: f2 :: f3 :: x) = (f0 * 4 + f1 / 16) :: (f1 % 16 * 16 + f2 / 4) :: (f2 % 4 * 64 + f3) :: decL x := fun _ => rfl
    have e' : ∀ x, leftL (f0 :: f1 :: f2 :: f3 :: x) = leftL x := fun _ => rfl
    rw [hl]
    simp only [List.cons_append]
    rw [e, e, e', e']
    refine ⟨fun h => ?_, fun h => ?_, fun h => ?_, fun h => ?_⟩
    · obtain ⟨a, b, c⟩ := ih.1 h; rw [a, b, c]; exact ⟨rfl, rfl, rfl⟩
    · obtain ⟨a, b⟩ := ih.2.1 h; rw [a, b]; exact ⟨rfl, rfl⟩
    · obtain ⟨a, b⟩ := ih.2.2.1 h; rw [a, b]; exact ⟨rfl, rfl⟩
    · obtain ⟨a, b⟩ := ih.2.2.2 h; rw [a, b]; exact ⟨rfl, rfl⟩
theorem left_in : ∀ l : List Int, (∀ v ∈ l, 0 ≤ v ∧ v < 64) → 0 ≤ leftL l ∧ leftL l < 64 ∧ (l.length % 4 = 2 → leftL l < 16) ∧ (l.length % 4 = 3 → leftL l < 4)
  | [], _ => by simp [leftL]
  | [f0], h => by have := h f0 (by simp); simp [leftL]; omega
  | [f0, f1], h => by simp [leftL]; omega
  | [f0, f1, f2], h => by simp [leftL]; omega
  | f0 :: f1 :: f2 :: f3 :: r, h => by
    have ih := left_in r fun v hv => h v (by simp [hv])
    have hl : (f0 :: f1 :: f2 :: f3 :: r).length % 4 = r.length % 4 := by simp only [List.length_cons]; omega
    rw [hl]
    exact ih
theorem dec_in : ∀ l : List Int, (∀ v ∈ l, 0 ≤ v ∧ v < 64) → ∀ n ∈ decL l, 0 ≤ n ∧ n < 256
  | [], _ => by simp [decL]
  | [f0], _ => by simp [decL]
  | [f0, f1], h => by have := h f0 (by simp); have := h f1 (by simp); simp [decL]; omega
  | [f0, f1, f2], h => by have := h f0 (by simp); have := h f1 (by simp); have := h f2 (by simp); simp [decL]; omega
  | f0 :: f1 :: f2 :: f3 :: r, h => by
    have ih := dec_in r fun v hv => h v (by simp [hv])
    have h0 := h f0 (by simp); have h1 := h f1 (by simp); have h2 := h f2 (by simp); have h3 := h f3 (by simp)
    intro n hn
    simp only [decL, List.mem_cons] at hn
    rcases hn with rfl | rfl | rfl | hn
    · omega
    · omega
    · omega
    · exact ih n hn
theorem dec_len : ∀ l : List Int, (decL l).length ≤ l.length
  | [] => by simp [decL]
  | [_] => by simp [decL]
  | [_, _] => by simp [decL]
  | [_, _, _] => by simp [decL]
  | _ :: _ :: _ :: _ :: r => by have := dec_len r; simp only [decL, List.length_cons]; omega
theorem figs_in (l : List Int) : ∀ v ∈ figs l, 0 ≤ v ∧ v < 64 := by
  intro v hv
  obtain ⟨h1, h2⟩ := List.mem_filter.mp hv
  obtain ⟨c, _, rfl⟩ := List.mem_map.mp h1
  exact ⟨(b64v_in c).1, by simpa using h2⟩
/-- between the turns -/
def InvD (pre : List Int) (qp lc : Int) (out : List Int) : Prop := qp = ((figs pre).length % 4 : Nat) ∧ lc = leftL (figs pre) ∧ out = decL (figs pre)
theorem invD0 : InvD [] 0 0 [] := ⟨rfl, rfl, rfl⟩
theorem InvD.bounds {pre : List Int} {qp lc : Int} {out : List Int} (h : InvD pre qp lc out) : 0 ≤ qp ∧ qp ≤ 3 ∧ 0 ≤ lc ∧ lc < 64 ∧ out.length ≤ pre.length := by
  obtain ⟨h1, h2, h3⟩ := h
  have := left_in (figs pre) (figs_in pre)
  have h4 := dec_len (figs pre)
  have h5 := figs_len pre
  rw [h3]
  omega
theorem InvD.qp {pre : List Int} {qp lc : Int} {out : List Int} (h : InvD pre qp lc out) : qp = ((figs pre).length % 4 : Nat) := h.1
theorem InvD.out {pre : List Int} {qp lc : Int} {out : List Int} (h : InvD pre qp lc out) : out = decL (figs pre) := h.2.2
theorem invD_skip {pre : List Int} {n qp lc : Int} {out : List Int} (h : InvD pre qp lc out) (hn : 64 ≤ b64v n) : InvD (pre ++ [n]) qp lc out := by
  unfold InvD at *
  rw [figs_snoc_out hn]; exact h
section
variable {pre : List Int} {n qp lc : Int} {out : List Int}
theorem len1 (v : Int) (l : List Int) : (l ++ [v]).length = l.length + 1 := by simp
theorem invD_0 (h : InvD pre qp lc out) (hn : b64v n < 64) (hq : qp = 0) : InvD (pre ++ [n]) 1 (b64v n) out := by
  obtain ⟨h1, h2, h3⟩ := h
  have d := (dec_snoc (b64v n) (figs pre)).1 (by omega)
  unfold InvD
  rw [figs_snoc_in hn, d.1, d.2.1, len1]
  exact ⟨by omega, rfl, h3⟩
theorem invD_1 (h : InvD pre qp lc out) (hn : b64v n < 64) (hq : qp = 1) : InvD (pre ++ [n]) 2 (b64v n % 16) (out ++ [lc * 2 ^ 2 + b64v n / 2 ^ 4]) := by
  obtain ⟨h1, h2, h3⟩ := h
  have d := (dec_snoc (b64v n) (figs pre)).2.1 (by omega)
  unfold InvD
  rw [figs_snoc_in hn, d.1, d.2, len1, h2, h3]
  exact ⟨by omega, rfl, rfl⟩
theorem invD_2 (h : InvD pre qp lc out) (hn : b64v n < 64) (hq : qp = 2) : InvD (pre ++ [n]) 3 (b64v n % 4) (out ++ [lc * 2 ^ 4 + b64v n / 2 ^ 2]) := by
  obtain ⟨h1, h2, h3⟩ := h
  have d := (dec_snoc (b64v n) (figs pre)).2.2.1 (by omega)
  unfold InvD
  rw [figs_snoc_in hn, d.1, d.2, len1, h2, h3]
  exact ⟨by omega, rfl, rfl⟩
theorem invD_3 (h : InvD pre qp lc out) (hn : b64v n < 64) (h0 : ¬ qp = 0) (h1 : ¬ qp = 1) (h2 : ¬ qp = 2) : InvD (pre ++ [n]) 0 0 (out ++ [lc * 2 ^ 6 + b64v n]) := by
  have b := h.bounds
  obtain ⟨g1, g2, g3⟩ := h
  have d := (dec_snoc (b64v n) (figs pre)).2.2.2 (by omega)
  unfold InvD
  rw [figs_snoc_in hn, d.1, d.2, len1, g2, g3]
  exact ⟨by omega, rfl, rfl⟩
end
end
section
/-! the plain law, part 3: the octets of figures, four by four -/
theorem dec_four (a b c d : Int) : ∀ l : List Int, l.length % 4 = 0 → decL (l ++ [a, b, c, d]) = decL l ++ [a * 4 + b / 16, b % 16 * 16 + c / 4, c % 4 * 64 + d]
  | [], _ => rfl
  | [_], h => by simp at h
  | [_, _], h => by simp at h
  | [_, _, _], h => by simp at h
  | f0 :: f1 :: f2 :: f3 :: r, h => by
    have hl : r.length % 4 = 0 := by simp only [List.length_cons] at h; omega
    have ih := dec_four a b c d r hl
    show decL (f0 :: f1 :: f2 :: f3 :: (r ++ [a, b, c, d])) = _
    simp only [decL, ih, List.cons_append]
theorem take_four {ns : List Int} {k : Nat} (h : k + 4 ≤ ns.length) : ns.take (k + 4) = ns.take k ++ [ns.getD k 0, ns.getD (k + 1) 0, ns.getD (k + 2) 0, ns.getD (k + 3) 0] := by
  have at_ : ∀ j, j < ns.length → ns[j]? = some (ns.getD j 0) := fun j hj => by
    rw [List.getElem?_eq_getElem hj, List.getD_eq_getElem?_getD, List.getElem?_eq_getElem hj]; rfl
  rw [show k + 4 = k + 1 + 1 + 1 + 1 from rfl, List.take_add_one, List.take_add_one, List.take_add_one, List.take_add_one, at_ k (by omega), at_ (k + 1) (by omega), at_ (k + 1 + 1) (by omega), at_ (k + 1 + 1 + 1) (by omega)]
  simp
/-- between the turns of the octets' loop -/
def InvO (ns : List Int) (i : Nat) (out : List Int) : Prop := out = decL (ns.take (4 * i)) ∧ out.length ≤ 4 * i
theorem invO0 (ns : List Int) : InvO ns 0 [] := ⟨by simp [decL], by simp⟩
theorem invO_turn {ns : List Int} {i n : Nat} {out : List Int} {k : Int} (h : InvO ns i out) (hn : 4 * n = ns.length) (hi : i < n) (hk : k = 0 + (i : Int) * 4) :
    InvO ns (i + 1) (out ++ [ns.getD k.toNat 0 * 4 + ns.getD (k + 1).toNat 0 / 16] ++ [ns.getD (k + 1).toNat 0 % 16 * 16 + ns.getD (k + 2).toNat 0 / 4] ++ [ns.getD (k + 2).toNat 0 % 4 * 64 + ns.getD (k + 3).toNat 0]) := by
  obtain ⟨h1, h2⟩ := h
  have e0 : k.toNat = 4 * i := by omega
  have e1 : (k + 1).toNat = 4 * i + 1 := by omega
  have e2 : (k + 2).toNat = 4 * i + 2 := by omega
  have e3 : (k + 3).toNat = 4 * i + 3 := by omega
  rw [e0, e1, e2, e3]
  refine ⟨?_, by simp only [List.length_append, List.length_singleton]; omega⟩
  rw [show 4 * (i + 1) = 4 * i + 4 by omega, take_four (by omega), dec_four _ _ _ _ _ (by rw [List.length_take]; omega), h1]
  simp
theorem invO_turnF {ns pre : List Int} {n : Nat} {out : List Int} {k z : Int} (h : InvO ns pre.length out) (hn : 4 * n = ns.length) (hi : pre.length < n) (hk : k = 0 + (pre.length : Int) * 4) :
    InvO ns (pre ++ [z]).length (out ++ [ns.getD k.toNat 0 * 4 + (ns.getD (k + 1).toNat 0).fdiv 16] ++ [(ns.getD (k + 1).toNat 0).fmod 16 * 16 + (ns.getD (k + 2).toNat 0).fdiv 4] ++ [(ns.getD (k + 2).toNat 0).fmod 4 * 64 + ns.getD (k + 3).toNat 0]) := by
  rw [List.length_append, List.length_singleton]
  simp only [Int.fdiv_eq_ediv_of_nonneg _ (show (0 : Int) ≤ 16 by decide), Int.fdiv_eq_ediv_of_nonneg _ (show (0 : Int) ≤ 4 by decide), Int.fmod_eq_emod_of_nonneg _ (show (0 : Int) ≤ 16 by decide), Int.fmod_eq_emod_of_nonneg _ (show (0 : Int) ≤ 4 by decide)]
  exact invO_turn h hn hi hk
theorem InvO.len {ns : List Int} {i : Nat} {out : List Int} (h : InvO ns i out) : out.length ≤ 4 * i := h.2
theorem invO_end {ns : List Int} {n : Nat} {out : List Int} (h : InvO ns n out) (hn : 4 * n = ns.length) : out = decL ns := by
  rw [h.1, hn, List.take_length]
end
section
/-! the plain law, part 4: the distance as it is reckoned -/
def low (c : Nat) : Nat := if 65 ≤ c ∧ c ≤ 90 then c + 32 else c
def cost (c d : Nat) : Int := if c = d then 0 else if low c = low d then 1 else 2
theorem cost_in (c d : Nat) : 0 ≤ cost c d ∧ cost c d ≤ 2 := by
  unfold cost
  repeat' split
  all_goals omega
/-- the cells: i signs of b, j signs of a -/
def cell (a b : List Nat) : Nat → Nat → Int
  | 0, j => 2 * (j : Int)
  | i + 1, 0 => 2 * ((i : Int) + 1)
  | i + 1, j + 1 => min (min (if j = 0 then 2 * (i : Int) else cell a b (i + 1) j) (cell a b i (j + 1)) + 2) (cell a b i j + cost (b.getD i 0) (a.getD j 0))
theorem cell_zero (a b : List Nat) : ∀ i, cell a b i 0 = 2 * (i : Int)
  | 0 => by rw [cell]
  | i + 1 => by rw [cell]; omega
def big : Int := 9223372036854775807
/-- the row while row i + 1 is made, j places done -/
def rowAt (a b : List Nat) (i j : Nat) : List Int := (List.range a.length).map fun t => if t < j then cell a b (i + 1) (t + 1) else cell a b i (t + 1)
def resAt (a b : List Nat) (i j : Nat) : Int := if j = 0 then 2 * (i : Int) else cell a b (i + 1) j
def minAt (a b : List Nat) (i : Nat) : Nat → Int
  | 0 => big
  | j + 1 => min (minAt a b i j) (cell a b (i + 1) (j + 1))
theorem rowAt_len (a b : List Nat) (i j : Nat) : (rowAt a b i j).length = a.length := by simp [rowAt]
theorem rowAt_get {a b : List Nat} {i j : Nat} (h : j < a.length) : (rowAt a b i j).getD j 0 = cell a b i (j + 1) := by
  simp [rowAt, List.getD_eq_getElem?_getD, h]
theorem rowAt_set {a b : List Nat} {i j : Nat} : (rowAt a b i j).set j (cell a b (i + 1) (j + 1)) = rowAt a b i (j + 1) := by
  apply List.ext_getElem?
  intro t
  rw [List.getElem?_set]
  unfold rowAt
  by_cases h : t < a.length
  · by_cases e : j = t
    · subst e; simp [h]
    · simp only [if_neg e, List.getElem?_map, List.getElem?_range h, Option.map_some]
      congr 1
      by_cases h1 : t < j
      · rw [if_pos h1, if_pos (by omega)]
      · rw [if_neg h1, if_neg (by omega)]
  · by_cases e : j = t
    · subst e; simp [h]
    · simp [e, h]
theorem rowAt_next (a b : List Nat) (i : Nat) : rowAt a b i a.length = rowAt a b (i + 1) 0 := by
  unfold rowAt
  refine List.map_congr_left fun t ht => ?_
  rw [List.mem_range] at ht
  rw [if_pos ht, if_neg (by omega)]
theorem rowAt_first (a b : List Nat) : rowAt a b 0 0 = (List.range a.length).map fun (t : Nat) => 2 * ((t : Int) + 1) := by
  unfold rowAt
  refine List.map_congr_left fun t _ => ?_
  rw [if_neg (by omega), cell]
  omega
/-- one step of the inner loop -/
theorem cell_next (a b : List Nat) (i j : Nat) : min (min (resAt a b i j) (cell a b i (j + 1)) + 2) (cell a b i j + cost (b.getD i 0) (a.getD j 0)) = cell a b (i + 1) (j + 1) := by
  rw [cell]; rfl
/-- rows 1 to i were not pruned -/
def Kept (a b : List Nat) (mx : Int) (i : Nat) : Prop := ∀ t, t < i → minAt a b t a.length ≤ mx
/-- what the rest of the reckoning gives -/
def Dp (a b : List Nat) (mx r : Int) : Prop := (Kept a b mx b.length ∧ r = cell a b b.length a.length) ∨ (∃ i, i < b.length ∧ mx < minAt a b i a.length ∧ r = mx + 1)
def Core (A B : List Nat) (mx r : Int) : Prop :=
  ((A = [] ∨ B = []) ∧ r = 2 * ((A.length : Int) + B.length)) ∨
  (A ≠ [] ∧ B ≠ [] ∧ ∃ a b, ((a = A ∧ b = B ∧ A.length ≤ B.length) ∨ (a = B ∧ b = A ∧ B.length < A.length)) ∧ ((mx < ((b.length : Int) - a.length) * 2 ∧ r = mx + 1) ∨ Dp a b mx r))
/-- what the whole says -/
def Lev (A B : List Nat) (mx r : Int) : Prop := (A = B → r = 0) ∧ (A ≠ B → ∃ P S A' B', A = P ++ A' ++ S ∧ B = P ++ B' ++ S ∧ Core A' B' mx r)
theorem lev_same {A B : List Nat} (mx : Int) (h : A = B) : Lev A B mx 0 := ⟨fun _ => rfl, fun n => absurd h n⟩
theorem lev_core {A B P S A' B' : List Nat} {mx r : Int} (hn : ¬ A = B) (ha : A = P ++ A' ++ S) (hb : B = P ++ B' ++ S) (h : Core A' B' mx r) : Lev A B mx r := ⟨fun e => absurd e hn, fun _ => ⟨P, S, A', B', ha, hb, h⟩⟩
end
section
/-! the plain law, part 5: the distance is D -/
theorem cell_up (a b : List Nat) (i j : Nat) : cell a b (i + 1) (j + 1) ≤ cell a b i (j + 1) + 2 := by rw [cell]; omega
theorem cell_diag (a b : List Nat) (i j : Nat) : cell a b (i + 1) (j + 1) ≤ cell a b i j + cost (b.getD i 0) (a.getD j 0) := by rw [cell]; omega
theorem cell_left (a b : List Nat) (i j : Nat) : cell a b (i + 1) (j + 1) ≤ resAt a b i j + 2 := by rw [cell]; unfold resAt; omega
theorem cell_ge {a b : List Nat} {i j : Nat} {z : Int} (h1 : z ≤ resAt a b i j + 2) (h2 : z ≤ cell a b i (j + 1) + 2) (h3 : z ≤ cell a b i j + cost (b.getD i 0) (a.getD j 0)) : z ≤ cell a b (i + 1) (j + 1) := by
  rw [cell]; unfold resAt at h1; omega
theorem minAt_le (a b : List Nat) (i : Nat) : ∀ j t, t < j → minAt a b i j ≤ cell a b (i + 1) (t + 1)
  | 0, t, h => by omega
  | j + 1, t, h => by
    rw [minAt]
    by_cases e : t = j
    · subst e; omega
    · have := minAt_le a b i j t (by omega); omega
theorem minAt_big (a b : List Nat) (i : Nat) : ∀ j, minAt a b i j ≤ big
  | 0 => by rw [minAt]; omega
  | j + 1 => by have := minAt_big a b i j; rw [minAt]; omega
theorem minAt_ge {a b : List Nat} {i : Nat} {z : Int} (hz : z ≤ big) : ∀ j, (∀ t, t < j → z ≤ cell a b (i + 1) (t + 1)) → z ≤ minAt a b i j
  | 0, _ => by rw [minAt]; exact hz
  | j + 1, h => by
    have h1 := minAt_ge hz j fun t ht => h t (by omega)
    have h2 := h j (by omega)
    rw [minAt]; omega
theorem cell_one (a b : List Nat) (i : Nat) : cell a b (i + 1) 1 ≤ 2 * ((i : Int) + 1) := by
  have := cell_left a b i 0
  unfold resAt at this
  rw [if_pos rfl] at this
  simp only [Nat.zero_add] at this
  omega
theorem row_mono (a b : List Nat) (i : Nat) : ∀ t, t < a.length → minAt a b i a.length ≤ cell a b (i + 1 + 1) (t + 1)
  | 0, h => by
    have m1 := minAt_le a b i a.length 0 h
    have c1 := cell_one a b i
    refine cell_ge ?_ ?_ ?_
    · unfold resAt; rw [if_pos rfl]; simp only [Nat.zero_add] at m1 ⊢; omega
    · simp only [Nat.zero_add] at m1 ⊢; omega
    · have := cost_in (b.getD (i + 1) 0) (a.getD 0 0)
      rw [cell_zero]
      simp only [Nat.zero_add] at m1
      omega
  | t + 1, h => by
    have ih := row_mono a b i t (by omega)
    have m1 := minAt_le a b i a.length (t + 1) h
    have m2 := minAt_le a b i a.length t (by omega)
    refine cell_ge ?_ ?_ ?_
    · unfold resAt; rw [if_neg (by omega)]; omega
    · omega
    · have := cost_in (b.getD (i + 1) 0) (a.getD (t + 1) 0)
      omega
theorem min_mono (a b : List Nat) (i : Nat) : ∀ d, minAt a b i a.length ≤ minAt a b (i + d) a.length
  | 0 => Int.le_refl _
  | d + 1 => by
    have h1 := min_mono a b i d
    have h2 : minAt a b (i + d) a.length ≤ minAt a b (i + (d + 1)) a.length := minAt_ge (minAt_big _ _ _ _) _ fun t ht => row_mono a b (i + d) t ht
    omega
theorem min_final {a b : List Nat} {i : Nat} (h : i < b.length) (ha : 0 < a.length) : minAt a b i a.length ≤ cell a b b.length a.length := by
  have h1 := min_mono a b i (b.length - 1 - i)
  rw [show i + (b.length - 1 - i) = b.length - 1 by omega] at h1
  have h2 := minAt_le a b (b.length - 1) a.length (a.length - 1) (by omega)
  rw [show b.length - 1 + 1 = b.length by omega, show a.length - 1 + 1 = a.length by omega] at h2
  omega
theorem dp_dist {a b : List Nat} {mx r : Int} (ha : 0 < a.length) (h : Dp a b mx r) : (cell a b b.length a.length ≤ mx → r = cell a b b.length a.length) ∧ (mx < cell a b b.length a.length → mx < r) := by
  rcases h with ⟨_, h⟩ | ⟨i, hi, hm, h⟩
  · omega
  · have := min_final hi ha; omega
/-- what is asked of the strings: stripped in any way, the distance is D -/
def Far (A B : List Nat) (D : Int) : Prop := ∀ P S A' B', A = P ++ A' ++ S → B = P ++ B' ++ S →
  ((A' = [] ∨ B' = []) → 2 * ((A'.length : Int) + B'.length) = D) ∧
  (A' ≠ [] → B' ≠ [] → ∀ a b, ((a = A' ∧ b = B' ∧ A'.length ≤ B'.length) ∨ (a = B' ∧ b = A' ∧ B'.length < A'.length)) → cell a b b.length a.length = D ∧ ((b.length : Int) - a.length) * 2 ≤ D)
theorem lev_far {A B : List Nat} {mx r D : Int} (h : Lev A B mx r) (hne : A ≠ B) (hf : Far A B D) : (D ≤ mx → r = D) ∧ (mx < D → mx < r) := by
  obtain ⟨P, S, A', B', hA, hB, hc⟩ := h.2 hne
  obtain ⟨f1, f2⟩ := hf P S A' B' hA hB
  rcases hc with ⟨h0, hr⟩ | ⟨n1, n2, a, b, hab, hr⟩
  · have := f1 h0; omega
  · obtain ⟨g1, g2⟩ := f2 n1 n2 a b hab
    have ha : 0 < a.length := by
      rcases hab with ⟨rfl, _, _⟩ | ⟨rfl, _, _⟩
      · exact List.length_pos_iff.mpr n1
      · exact List.length_pos_iff.mpr n2
    rcases hr with ⟨hm, hr⟩ | hr
    · omega
    · have := dp_dist ha hr
      rw [g1] at this
      exact this
/-! a shorter one that is part of a longer one -/
theorem sub_snoc {x y : Nat} {l m : List Nat} (h : (l ++ [x]).Sublist (m ++ [y])) : (l ++ [x]).Sublist m ∨ (x = y ∧ l.Sublist m) := by
  have h' := List.reverse_sublist.mpr h
  simp only [List.reverse_append, List.reverse_cons, List.reverse_nil, List.nil_append, List.singleton_append] at h'
  cases h' with
  | cons _ h1 =>
    left
    have := List.reverse_sublist.mpr h1
    simpa using this
  | cons_cons _ h2 => right; exact ⟨rfl, List.reverse_sublist.mp h2⟩
theorem getD_some {l : List Nat} {i : Nat} (h : i < l.length) : l[i]? = some (l.getD i 0) := by
  rw [List.getElem?_eq_getElem h, List.getD_eq_getElem?_getD, List.getElem?_eq_getElem h]; rfl
theorem take_snoc {l : List Nat} {i : Nat} (h : i < l.length) : l.take (i + 1) = l.take i ++ [l.getD i 0] := by
  rw [List.take_add_one, getD_some h]; rfl
theorem cost_self (c : Nat) : cost c c = 0 := by simp [cost]
theorem cell_sub (a b : List Nat) : ∀ i j : Nat, i ≤ b.length → j ≤ a.length → (a.take j).Sublist (b.take i) → cell a b i j ≤ 2 * ((i : Int) - j)
  | 0, j, _, hj, h => by
    have := h.length_le
    rw [List.length_take, List.length_take] at this
    have : j = 0 := by omega
    subst this
    rw [cell]; omega
  | i + 1, 0, _, _, _ => by rw [cell]; omega
  | i + 1, j + 1, hi, hj, h => by
    rw [take_snoc (by omega), take_snoc (by omega)] at h
    rcases sub_snoc h with h1 | ⟨h1, h2⟩
    · rw [← take_snoc (by omega)] at h1
      have := cell_sub a b i (j + 1) (by omega) hj h1
      have := cell_up a b i j
      omega
    · have := cell_sub a b i j (by omega) (by omega) h2
      have c := cell_diag a b i j
      rw [h1, cost_self] at c
      omega
theorem cell_len (a b : List Nat) : ∀ i j : Nat, 2 * ((i : Int) - j) ≤ cell a b i j
  | 0, j => by rw [cell]; omega
  | i + 1, 0 => by rw [cell]; omega
  | i + 1, j + 1 => by
    refine cell_ge ?_ ?_ ?_
    · unfold resAt
      split
      · omega
      · have := cell_len a b (i + 1) j; omega
    · have := cell_len a b i (j + 1); omega
    · have := cell_len a b i j
      have := cost_in (b.getD i 0) (a.getD j 0)
      omega
termination_by i j => i + j
theorem cell_exact {a b : List Nat} (h : a.Sublist b) : cell a b b.length a.length = 2 * ((b.length : Int) - a.length) := by
  have h1 := cell_len a b b.length a.length
  have h2 := cell_sub a b b.length a.length (Nat.le_refl _) (Nat.le_refl _) (by rw [List.take_length, List.take_length]; exact h)
  omega
theorem far_sub {A B : List Nat} {D : Int} (h : A.Sublist B) (hd : 2 * ((B.length : Int) - A.length) = D) : Far A B D ∧ Far B A D := by
  have key : ∀ P S A' B' : List Nat, A = P ++ A' ++ S → B = P ++ B' ++ S → A'.Sublist B' ∧ (B.length : Int) - A.length = B'.length - A'.length := by
    intro P S A' B' hA hB
    constructor
    · rw [hA, hB, List.append_assoc, List.append_assoc] at h
      exact (List.append_sublist_append_right S).mp ((List.append_sublist_append_left P).mp h)
    · rw [hA, hB]; simp only [List.length_append]; omega
  constructor
  · intro P S A' B' hA hB
    obtain ⟨k1, k2⟩ := key P S A' B' hA hB
    have k3 := k1.length_le
    refine ⟨fun h0 => ?_, fun n1 n2 a b hab => ?_⟩
    · rcases h0 with rfl | rfl
      · simp only [List.length_nil] at *; omega
      · have : A'.length = 0 := by simp only [List.length_nil] at k3; omega
        simp only [List.length_nil] at *; omega
    · rcases hab with ⟨rfl, rfl, _⟩ | ⟨rfl, rfl, h3⟩
      · rw [cell_exact k1]; omega
      · omega
  · intro P S B' A' hB hA
    obtain ⟨k1, k2⟩ := key P S A' B' hA hB
    have k3 := k1.length_le
    refine ⟨fun h0 => ?_, fun n1 n2 a b hab => ?_⟩
    · rcases h0 with rfl | rfl
      · have : A'.length = 0 := by simp only [List.length_nil] at k3; omega
        simp only [List.length_nil] at *; omega
      · simp only [List.length_nil] at *; omega
    · rcases hab with ⟨rfl, rfl, h3⟩ | ⟨rfl, rfl, h3⟩
      · have e := List.Sublist.eq_of_length k1 (by omega)
        subst e
        rw [cell_exact (List.Sublist.refl _)]; omega
      · rw [cell_exact k1]; omega
/-! two of one length that part just at the signs of one -/
/-- signs that stand in a alone and cost 2 against every other sign -/
def cnt (p : Nat → Bool) (l : List Nat) : Int := ((l.filter p).length : Int)
theorem cnt_snoc (p : Nat → Bool) (l : List Nat) (x : Nat) : cnt p (l ++ [x]) = cnt p l + if p x then 1 else 0 := by
  unfold cnt
  rw [List.filter_append, List.length_append]
  by_cases h : p x = true
  · simp [h]
  · simp [h]
theorem cell_cnt (a b : List Nat) (p : Nat → Bool) (hp : ∀ x ∈ a, p x = true → ∀ y ∈ b, cost y x = 2) : ∀ i j, i ≤ b.length → j ≤ a.length → 2 * cnt p (a.take j) ≤ cell a b i j
  | 0, j, _, hj => by
    rw [cell]
    have : (a.take j |>.filter p).length ≤ j := Nat.le_trans (List.length_filter_le _ _) (by rw [List.length_take]; omega)
    unfold cnt
    omega
  | i + 1, 0, _, _ => by rw [cell]; simp [cnt]; omega
  | i + 1, j + 1, hi, hj => by
    have e : cnt p (a.take (j + 1)) = cnt p (a.take j) + if p (a.getD j 0) then 1 else 0 := by rw [take_snoc (by omega), cnt_snoc]
    have e1 : cnt p (a.take (j + 1)) ≤ cnt p (a.take j) + 1 := by rw [e]; split <;> omega
    refine cell_ge ?_ ?_ ?_
    · unfold resAt
      split
      · rename_i h0
        subst h0
        simp [cnt] at e1 ⊢
        omega
      · have := cell_cnt a b p hp (i + 1) j hi (by omega); omega
    · have := cell_cnt a b p hp i (j + 1) (by omega) hj; omega
    · have h1 := cell_cnt a b p hp i j (by omega) (by omega)
      have h2 := cost_in (b.getD i 0) (a.getD j 0)
      by_cases h : p (a.getD j 0) = true
      · have h3 := hp (a.getD j 0) (List.mem_of_getElem? (getD_some (by omega))) h (b.getD i 0) (List.mem_of_getElem? (getD_some (by omega)))
        omega
      · rw [if_neg h] at e; omega
termination_by i j => i + j
theorem cell_same (a b : List Nat) (p : Nat → Bool) (hq : ∀ t, t < a.length → p (a.getD t 0) = false → a.getD t 0 = b.getD t 0) : ∀ i, i ≤ a.length → cell a b i i ≤ 2 * cnt p (a.take i)
  | 0, _ => by rw [cell]; simp [cnt]
  | i + 1, hi => by
    have e : cnt p (a.take (i + 1)) = cnt p (a.take i) + if p (a.getD i 0) then 1 else 0 := by rw [take_snoc (by omega), cnt_snoc]
    have ih := cell_same a b p hq i (by omega)
    have c := cell_diag a b i i
    have h2 := cost_in (b.getD i 0) (a.getD i 0)
    by_cases h : p (a.getD i 0) = true
    · rw [if_pos h] at e; omega
    · have h3 := hq i (by omega) (by simpa using h)
      rw [h3, cost_self] at c
      rw [if_neg h] at e; omega
theorem cnt_app (p : Nat → Bool) (l m : List Nat) : cnt p (l ++ m) = cnt p l + cnt p m := by
  unfold cnt; rw [List.filter_append, List.length_append]; omega
theorem cnt_none {p : Nat → Bool} {l : List Nat} (h : ∀ x ∈ l, p x = false) : cnt p l = 0 := by
  unfold cnt
  rw [List.filter_eq_nil_iff.mpr (fun x hx => by simp [h x hx])]; rfl
theorem far_same {A B : List Nat} {D : Int} (p : Nat → Bool) (hl : A.length = B.length) (hn : ∀ y ∈ B, p y = false) (hp : ∀ x ∈ A, p x = true → ∀ y ∈ B, cost y x = 2)
    (hq : ∀ t, t < A.length → p (A.getD t 0) = false → A.getD t 0 = B.getD t 0) (hd : 2 * cnt p A = D) : Far A B D := by
  intro P S A' B' hA hB
  have l1 : A'.length = B'.length := by rw [hA, hB] at hl; simp only [List.length_append] at hl; omega
  have c1 : cnt p A = cnt p A' := by
    rw [hA, cnt_app, cnt_app, cnt_none (l := P) (fun x hx => hn x (by rw [hB]; simp [hx])), cnt_none (l := S) (fun x hx => hn x (by rw [hB]; simp [hx]))]
    omega
  have q1 : ∀ t, t < A'.length → p (A'.getD t 0) = false → A'.getD t 0 = B'.getD t 0 := by
    intro t ht h
    have ga : A.getD (P.length + t) 0 = A'.getD t 0 := by
      rw [hA, List.getD_eq_getElem?_getD, List.getD_eq_getElem?_getD, List.getElem?_append_left (by simp; omega), List.getElem?_append_right (by omega), Nat.add_sub_cancel_left]
    have gb : B.getD (P.length + t) 0 = B'.getD t 0 := by
      rw [hB, List.getD_eq_getElem?_getD, List.getD_eq_getElem?_getD, List.getElem?_append_left (by simp; omega), List.getElem?_append_right (by omega), Nat.add_sub_cancel_left]
    rw [← ga, ← gb]
    exact hq _ (by rw [hA]; simp; omega) (by rw [ga]; exact h)
  refine ⟨fun h0 => ?_, fun n1 n2 a b hab => ?_⟩
  · have e1 : A' = [] := by
      rcases h0 with h | h
      · exact h
      · rw [h] at l1; exact List.length_eq_zero_iff.mp l1
    rw [← hd, c1, l1.symm, e1]
    simp [cnt]
  · rcases hab with ⟨rfl, rfl, _⟩ | ⟨rfl, rfl, h3⟩
    · have h1 := cell_cnt a b p (fun x hx h y hy => hp x (by rw [hA]; simp [hx]) h y (by rw [hB]; simp [hy])) b.length a.length (Nat.le_refl _) (Nat.le_refl _)
      have h2 := cell_same a b p q1 a.length (Nat.le_refl _)
      rw [List.take_length] at h1 h2
      have l2 := l1
      rw [← l1] at h1 ⊢
      rw [← hd, c1]
      have : (0 : Int) ≤ cnt p a := Int.natCast_nonneg _
      omega
    · omega
end
section
open PySem.Calls
theorem fill : hd.heap_39 = hd.heap_39 ∧ Challenge.rw_pa0032_01 = Challenge.rw_pa0032_01 := by
  k_with_none
  w_top off
  k_fill
  k_with "call type:type" => (refine call_type_of (Tx := "bytes") rfl (by decide +kernel) ?_)
  exact ⟨rfl, rfl⟩
section
variable {w : World} {mean : ExcName → Option Value} {mg mb : Str → Option Value}

theorem c_b64_value (x : Int) (tk : Tok) : Says w mean mg mb 70 1 (fun _ => True) [.int x tk] [] (fun _ _ r => ∃ t, r = .int (b64v x) t) := by
  unfold Says
  intro dp un gd cn cs a ccd cl outer A₀ base h₀ L m s Q E B F X T hk hd hu hp hret
  refine wpAny_call ?_
  refine' enter (binds := [(Str.ofString "c", .int x tk)]) ?k1 ?k2 ?k3 ?k5 ?kA ?kF ?kK ?k6 ?k7 ?k8 ?k9 ?kB ?_ ?c2 ?c3 ?c4 ?c5; (case kA => exact rfl); (case kF => exact rfl); (case kK => assumption); (case k1 => k_asm); (case k2 => k_asm); (case k3 => k_asm); (case k5 => k_asm); (case k6 => k_is); (case k7 => k_is); (case k8 => ktr_room); (case k9 => first | exact BindsTo.of_eq rfl | exact binds_K (by k_in) rfl (by k_is) rfl rfl rfl | fail "BINDS"); (case c5 => decide); (case kB => exact locs rfl); (case c2 => exact rfl); (case c3 => exact rfl); (case c4 => exact rfl); k_whole; intro g' L' h' hg' FG' F' N' B' X' T'; (try dsimp only); (try k_lift B'); (try k_fold)
  k_steps
  all_goals (refine hret _ _ _ (kept9 hg' (by assumption)) (exInt ?_); simp only [decide_eq_true_eq, decide_eq_false_iff_not, Int.not_le, Int.not_lt] at *; unfold b64v; (repeat' split) <;> omega)

theorem c_truth (x : Bool) : Says w mean mg mb 63 1 (fun _ => True) [.bool x] [] (fun _ _ r => r = .bool x) := by
  unfold Says
  intro dp un gd cn cs a ccd cl outer A₀ base h₀ L m s Q E B F X T hk hd hu hp hret
  refine wpAny_call ?_
  refine' enter (binds := [(Str.ofString "x", .bool x)]) ?k1 ?k2 ?k3 ?k5 ?kA ?kF ?kK ?k6 ?k7 ?k8 ?k9 ?kB ?_ ?c2 ?c3 ?c4 ?c5; (case kA => exact rfl); (case kF => exact rfl); (case kK => assumption); (case k1 => k_asm); (case k2 => k_asm); (case k3 => k_asm); (case k5 => k_asm); (case k6 => k_is); (case k7 => k_is); (case k8 => ktr_room); (case k9 => first | exact BindsTo.of_eq rfl | exact binds_K (by k_in) rfl (by k_is) rfl rfl rfl | fail "BINDS"); (case c5 => decide); (case kB => exact locs rfl); (case c2 => exact rfl); (case c3 => exact rfl); (case c4 => exact rfl); k_whole; intro g' L' h' hg' FG' F' N' B' X' T'; (try dsimp only); (try k_lift B'); (try k_fold)
  k_steps
  all_goals (refine hret _ _ _ (kept9 hg' (by assumption)) ?_; simp_all)

theorem c_asciib (x : Array UInt8) (tk : Tok) : Says w mean mg mb 49 1 (fun _ => True) [.bytes x tk] [] (fun _ _ r => r = .bytes x tk) := by
  unfold Says
  intro dp un gd cn cs a ccd cl outer A₀ base h₀ L m s Q E B F X T hk hd hu hp hret
  refine wpAny_call ?_
  refine' enter (binds := [(Str.ofString "data", .bytes x tk)]) ?k1 ?k2 ?k3 ?k5 ?kA ?kF ?kK ?k6 ?k7 ?k8 ?k9 ?kB ?_ ?c2 ?c3 ?c4 ?c5; (case kA => exact rfl); (case kF => exact rfl); (case kK => assumption); (case k1 => k_asm); (case k2 => k_asm); (case k3 => k_asm); (case k5 => k_asm); (case k6 => k_is); (case k7 => k_is); (case k8 => ktr_room); (case k9 => first | exact BindsTo.of_eq rfl | exact binds_K (by k_in) rfl (by k_is) rfl rfl rfl | fail "BINDS"); (case c5 => decide); (case kB => exact locs rfl); (case c2 => exact rfl); (case c3 => exact rfl); (case c4 => exact rfl); k_whole; intro g' L' h' hg' FG' F' N' B' X' T'; (try dsimp only); (try k_lift B'); (try k_fold)
  k_steps
  all_goals (exact hret _ _ _ (kept9 hg' (by assumption)) rfl)

theorem c_buffer (x : Array UInt8) (tk : Tok) : Says w mean mg mb 56 1 (fun _ => True) [.bytes x tk] [] (fun _ _ r => r = .bytes x tk) := by
  unfold Says
  intro dp un gd cn cs a ccd cl outer A₀ base h₀ L m s Q E B F X T hk hd hu hp hret
  refine wpAny_call ?_
  refine' enter (binds := [(Str.ofString "data", .bytes x tk)]) ?k1 ?k2 ?k3 ?k5 ?kA ?kF ?kK ?k6 ?k7 ?k8 ?k9 ?kB ?_ ?c2 ?c3 ?c4 ?c5; (case kA => exact rfl); (case kF => exact rfl); (case kK => assumption); (case k1 => k_asm); (case k2 => k_asm); (case k3 => k_asm); (case k5 => k_asm); (case k6 => k_is); (case k7 => k_is); (case k8 => ktr_room); (case k9 => first | exact BindsTo.of_eq rfl | exact binds_K (by k_in) rfl (by k_is) rfl rfl rfl | fail "BINDS"); (case c5 => decide); (case kB => exact locs rfl); (case c2 => exact rfl); (case c3 => exact rfl); (case c4 => exact rfl); k_whole; intro g' L' h' hg' FG' F' N' B' X' T'; (try dsimp only); (try k_lift B'); (try k_fold)
  k_steps
  all_goals (exact hret _ _ _ (kept9 hg' (by assumption)) rfl)

theorem c_bfdd_bytes (x : Array UInt8) (tk : Tok) : Says w mean mg mb 29 1 (fun _ => True) [.bytes x tk] [] (fun _ _ r => r = .bytes x tk) := by
  unfold Says
  intro dp un gd cn cs a ccd cl outer A₀ base h₀ L m s Q E B F X T hk hd hu hp hret
  refine wpAny_call ?_
  refine' enter (binds := [(Str.ofString "s", .bytes x tk)]) ?k1 ?k2 ?k3 ?k5 ?kA ?kF ?kK ?k6 ?k7 ?k8 ?k9 ?kB ?_ ?c2 ?c3 ?c4 ?c5; (case kA => exact rfl); (case kF => exact rfl); (case kK => assumption); (case k1 => k_asm); (case k2 => k_asm); (case k3 => k_asm); (case k5 => k_asm); (case k6 => k_is); (case k7 => k_is); (case k8 => ktr_room); (case k9 => first | exact BindsTo.of_eq rfl | exact binds_K (by k_in) rfl (by k_is) rfl rfl rfl | fail "BINDS"); (case c5 => decide); (case kB => exact locs rfl); (case c2 => exact rfl); (case c3 => exact rfl); (case c4 => exact rfl); k_whole; intro g' L' h' hg' FG' F' N' B' X' T'; (try dsimp only); (try k_lift B'); (try k_fold)
  k_steps
  all_goals (exact hret _ _ _ (kept9 hg' (by assumption)) rfl)

theorem c_same_bb (x y : Array UInt8) (tk tl : Tok) : Says w mean mg mb 180 1 (fun _ => True) [.bytes x tk, .bytes y tl] [] (fun _ _ r => r = .bool (x.toList == y.toList)) := by
  unfold Says
  intro dp un gd cn cs a ccd cl outer A₀ base h₀ L m s Q E B F X T hk hd hu hp hret
  refine wpAny_call ?_
  refine' enter (binds := [(Str.ofString "found", .bytes x tk), (Str.ofString "due", .bytes y tl)]) ?k1 ?k2 ?k3 ?k5 ?kA ?kF ?kK ?k6 ?k7 ?k8 ?k9 ?kB ?_ ?c2 ?c3 ?c4 ?c5; (case kA => exact rfl); (case kF => exact rfl); (case kK => assumption); (case k1 => k_asm); (case k2 => k_asm); (case k3 => k_asm); (case k5 => k_asm); (case k6 => k_is); (case k7 => k_is); (case k8 => ktr_room); (case k9 => first | exact BindsTo.of_eq rfl | exact binds_K (by k_in) rfl (by k_is) rfl rfl rfl | fail "BINDS"); (case c5 => decide); (case kB => exact locs rfl); (case c2 => exact rfl); (case c3 => exact rfl); (case c4 => exact rfl); k_whole; intro g' L' h' hg' FG' F' N' B' X' T'; (try dsimp only); (try k_lift B'); (try k_fold)
  k_steps
  all_goals (exact hret _ _ _ (kept9 hg' (by assumption)) rfl)

def subc (x y : Str) : Int := if x = y then 0 else if Txt.lower x = Txt.lower y then 1 else 2
theorem c_subst (x y : Str) (tk tl : Tok) : Says w mean mg mb 130 1 (fun _ => x.length ≤ 1 ∧ y.length ≤ 1) [.str x tk, .str y tl] [] (fun _ _ r => ∃ t, r = .int (subc x y) t) := by
  unfold Says
  intro dp un gd cn cs a ccd cl outer A₀ base h₀ L m s Q E B F X T hk hd hu hp hret
  refine wpAny_call ?_
  refine' enter (binds := [(Str.ofString "ch_a", .str x tk), (Str.ofString "ch_b", .str y tl)]) ?k1 ?k2 ?k3 ?k5 ?kA ?kF ?kK ?k6 ?k7 ?k8 ?k9 ?kB ?_ ?c2 ?c3 ?c4 ?c5; (case kA => exact rfl); (case kF => exact rfl); (case kK => assumption); (case k1 => k_asm); (case k2 => k_asm); (case k3 => k_asm); (case k5 => k_asm); (case k6 => k_is); (case k7 => k_is); (case k8 => ktr_room); (case k9 => first | exact BindsTo.of_eq rfl | exact binds_K (by k_in) rfl (by k_is) rfl rfl rfl | fail "BINDS"); (case c5 => decide); (case kB => exact locs rfl); (case c2 => exact rfl); (case c3 => exact rfl); (case c4 => exact rfl); k_whole; intro g' L' h' hg' FG' F' N' B' X' T'; (try dsimp only); (try k_lift B'); (try k_fold)
  obtain ⟨hp1, hp2⟩ := hp
  k_with "call builtin:str.lower" => (refine SCL.lower (by omega) ?_; intro _)
  k_steps
  all_goals (refine hret _ _ _ (kept9 hg' (by assumption)) (exInt ?_); unfold subc; simp_all)
end
end
section
open PySem.Calls
theorem fill2 : hd.heap_39 = hd.heap_39 ∧ Challenge.rw_pa0032_01 = Challenge.rw_pa0032_01 := by
  k_with_none
  w_top off
  k_fill
  exact ⟨rfl, rfl⟩
local macro_rules | `(tactic| walk_at "eval ListComp") => `(tactic| k_extra "my ListComp")
local macro_rules | `(tactic| walk_at "call builtin:str.join") => `(tactic| k_extra "my join")
local macro_rules | `(tactic| walk_at "getMethod str") => `(tactic| (k_here; with_reducible refine method_encode ?_))
local macro_rules | `(tactic| walk_at "getMethod bytes") => `(tactic| (k_here; with_reducible refine method_translate ?_))
def one (c : Nat) : Str := ⟨#[c]⟩
def txt (l : List Nat) : Str := ⟨l.toArray⟩
theorem glued_ones (l : List Nat) : ∀ acc : Array Nat, (l.map one).foldl (fun acc p => acc ++ (Str.ofString "").cps ++ p.cps) acc = acc ++ l.toArray := by
  induction l with
  | nil => intro acc; simp
  | cons c r ih =>
    intro acc
    rw [List.map_cons, List.foldl_cons, ih]
    have e : (Str.ofString "").cps = #[] := by decide
    rw [e]
    simp [one]
theorem join_one (l : List Nat) : Txt.join (Str.ofString "") (l.map one) = txt l := by
  show Builtin.Str.glued (Str.ofString "") (l.map one) = txt l
  unfold Builtin.Str.glued
  cases l with
  | nil => rfl
  | cons c r =>
    simp only [List.map_cons, List.drop_one, List.tail_cons, List.headD_cons]
    rw [glued_ones]
    simp [one, txt]
theorem sum_ones (l : List Nat) : ((l.map one).map (·.length)).sum = l.length := by
  induction l with
  | nil => rfl
  | cons c r ih => rw [List.map_cons, List.map_cons, List.sum_cons, ih, List.length_cons]; show 1 + _ = _; omega
theorem join9 {prog : Program} {w : World} {A : Around} {E : Value → Shared → Prop} {s : Shared} {t : Tok} {Q : Value → Shared → Prop} {D : Addr} {h₀ : Heap} {L : Addr} {news : List (Addr × Obj)} {ys : List Value} {l : List Nat} (N : News h₀ L s.heap news) (hm : (D, LCg.lst ys) ∈ news) (hi : StrsAre ys (l.map one)) (hw : l.length ≤ 500000)
    (h : ∀ t' k, Q (.str (txt l) t') { s with toks := k }) : wpAny (model prog w) A (call (.builtin "str.join") [.str (Str.ofString "") t, .ref D]) Q E s := by
  refine join_listW (items := ys.toArray) (ys := l.map one) ⟨_, (N _ hm).1, rfl, _, rfl⟩ (by simpa using hi) (by decide) (by rw [sum_ones, List.length_map]; omega) ?_
  rw [join_one]
  exact h
theorem strs_take {α : Type} {f : α → Str} {b : Array α} {i : Nat} {c : α} {ys : List Value} {y : Str} {t : Tok} (h : StrsAre ys ((b.toList.take i).map f)) (hc : b[i]? = some c) (e : y = f c) : StrsAre (ys ++ [.str y t]) ((b.toList.take (i + 1)).map f) := by
  have hc' : b.toList[i]? = some c := by rw [Array.getElem?_toList]; exact hc
  rw [List.take_add_one, hc', e]
  simpa using kct_snoc h
section
variable {w : World} {mean : ExcName → Option Value} {mg mb : Str → Option Value}

theorem c_text (x : Array UInt8) (tk : Tok) : Says w mean mg mb 159 1 (fun _ => x.size ≤ 500000) [.bytes x tk] [] (fun _ _ r => ∃ t, r = .str (txt (x.toList.map (·.toNat))) t) := by
  unfold Says
  intro dp un gd cn cs a ccd cl outer A₀ base h₀ L m s Q E B F X T hk hd hu hp hret
  refine wpAny_call ?_
  refine' enter (binds := [(Str.ofString "writing", .bytes x tk)]) ?k1 ?k2 ?k3 ?k5 ?kA ?kF ?kK ?k6 ?k7 ?k8 ?k9 ?kB ?_ ?c2 ?c3 ?c4 ?c5; (case kA => exact rfl); (case kF => exact rfl); (case kK => assumption); (case k1 => k_asm); (case k2 => k_asm); (case k3 => k_asm); (case k5 => k_asm); (case k6 => k_is); (case k7 => k_is); (case k8 => ktr_room); (case k9 => first | exact BindsTo.of_eq rfl | exact binds_K (by k_in) rfl (by k_is) rfl rfl rfl | fail "BINDS"); (case c5 => decide); (case kB => exact locs rfl); (case c2 => exact rfl); (case c3 => exact rfl); (case c4 => exact rfl); k_whole; intro g' L' h' hg' FG' F' N' B' X' T'; (try dsimp only); (try k_lift B'); (try k_fold)
  k_with "my ListComp" => k_dflt (refine' compB (b := x) (fun i ys => StrsAre ys ((x.toList.take i).map fun c => one c.toNat)) rfl ?kF ?kN ?k1 ?k2 ?k3 ?k4 ?k5 ?hi ?k6 ?k7 ?turn ?fin; (case kF => k_asm); (case kN => k_asm); (case k1 => with_unfolding_all rfl); (case k2 => decide); (case k3 => rfl); (case k4 => decide); (case k5 => rfl); (case hi => (refine' ld ?f ?e ?q; (case f => k_asm); (case e => rfl); (case q => exact ⟨rfl, rfl⟩))); (case k6 => (rw [PySem.sizeLine_eq]; omega)); (case k7 => exact .nil))
  k_with "my join" => (k_dflt (refine' join9 (l := x.toList.map (·.toNat)) ?N ?m ?i ?w ?_; (case N => k_asm); (case m => k_mem); (case i => (rename StrsAre _ _ => hS9; rw [List.map_map]; rw [List.take_of_length_le (by simp)] at hS9; exact hS9)); (case w => (rw [List.length_map, Array.length_toList]; exact hp)); k_whole; intro _ _))
  k_steps
  · exact Pend.mk (fun _ _ e => e) (strs_take (by assumption) (by assumption) rfl)
  · exact hret _ _ _ (kept9 hg' (by assumption)) ⟨_, rfl⟩

theorem c_bfdd_str (x : Str) (tk : Tok) : Says w mean mg mb 29 1 (fun _ => (∀ c ∈ x.cps.toList, c < 128) ∧ x.length ≤ 500000) [.str x tk] [] (fun _ _ r => ∃ t, r = .bytes (x.cps.map (·.toUInt8)) t) := by
  unfold Says
  intro dp un gd cn cs a ccd cl outer A₀ base h₀ L m s Q E B F X T hk hd hu hp hret
  refine wpAny_call ?_
  refine' enter (binds := [(Str.ofString "s", .str x tk)]) ?k1 ?k2 ?k3 ?k5 ?kA ?kF ?kK ?k6 ?k7 ?k8 ?k9 ?kB ?_ ?c2 ?c3 ?c4 ?c5; (case kA => exact rfl); (case kF => exact rfl); (case kK => assumption); (case k1 => k_asm); (case k2 => k_asm); (case k3 => k_asm); (case k5 => k_asm); (case k6 => k_is); (case k7 => k_is); (case k8 => ktr_room); (case k9 => first | exact BindsTo.of_eq rfl | exact binds_K (by k_in) rfl (by k_is) rfl rfl rfl | fail "BINDS"); (case c5 => decide); (case kB => exact locs rfl); (case c2 => exact rfl); (case c3 => exact rfl); (case c4 => exact rfl); k_whole; intro g' L' h' hg' FG' F' N' B' X' T'; (try dsimp only); (try k_lift B'); (try k_fold)
  k_with "call builtin:str.encode" => (k_dflt (refine' encode ?a ?z ?_; (case a => exact hp.1); (case z => (rw [PySem.sizeLine_eq]; exact Nat.le_trans hp.2 (by decide))); k_whole; intro _ _))
  k_steps
  all_goals (exact hret _ _ _ (kept9 hg' (by assumption)) ⟨_, rfl⟩)
end
end
section
open PySem.Calls Builtin Builtin.Str
theorem range_one (a b : Nat) : sliceRange (a : Int) (b : Int) 1 = (List.range (b - a)).map (a + ·) := by
  unfold sliceRange
  simp only [show (1 : Int) > 0 by decide, if_true]
  by_cases h : (a : Int) < b
  · rw [if_pos h]
    have e : (((b : Int) - a + 1 - 1) / 1).toNat = b - a := by omega
    rw [e]
    refine List.map_congr_left fun k _ => ?_
    omega
  · rw [if_neg h]
    have e : b - a = 0 := by omega
    rw [e]; rfl
theorem pick_range (l : List Nat) (a : Nat) : ∀ m, ((List.range m).map (a + ·)).filterMap (l.toArray[·]?) = (l.drop a).take m := by
  intro m
  induction m with
  | zero => simp
  | succ m ih =>
    rw [List.range_succ, List.map_append, List.filterMap_append, ih, List.take_add_one, List.getElem?_drop]
    congr 1
    simp only [List.map_cons, List.map_nil, List.getElem?_toArray]
    cases h : l[a + m]? with
    | none => simp [h]
    | some c => simp [h]
theorem slice_gen (l : List Nat) (lo hi : Option Int) (a b : Nat) (hab : a ≤ b) (hb : b ≤ l.length) (h : strSliceIndices lo hi 1 l.length = sliceRange (a : Int) (b : Int) 1) : Txt.slice (txt l) lo hi = txt ((l.drop a).take (b - a)) := by
  unfold Txt.slice
  have hl : (txt l).length = l.length := by simp [txt, PySem.Str.length]
  rw [hl, h, range_one]
  split
  · rename_i hc
    simp only [List.length_map, List.length_range, Bool.and_eq_true, beq_iff_eq] at hc
    have e1 : a = 0 := by omega
    have e2 : b = l.length := by omega
    subst e1
    rw [e2]
    simp
  · show PySem.Str.mk _ = PySem.Str.mk _
    congr 2
    exact pick_range l a _
theorem slice_drop (l : List Nat) (i : Int) (h0 : 0 ≤ i) (h1 : i ≤ l.length) : Txt.slice (txt l) (some i) none = txt (l.drop i.toNat) := by
  rw [slice_gen l (some i) none i.toNat l.length (by omega) (Nat.le_refl _)]
  · congr 1
    rw [List.take_of_length_le (by simp)]
  · unfold strSliceIndices
    simp only [show (1 : Int) > 0 by decide, if_true]
    congr 1
    rw [if_neg (by omega)]
    omega
theorem slice_take (l : List Nat) (j : Int) (h0 : j < 0) (h1 : -(l.length : Int) ≤ j) : Txt.slice (txt l) none (some j) = txt (l.take (l.length - (-j).toNat)) := by
  rw [slice_gen l none (some j) 0 (l.length - (-j).toNat) (by omega) (by omega)]
  · simp
  · unfold strSliceIndices
    simp only [show (1 : Int) > 0 by decide, if_true]
    congr 1
    rw [if_pos h0]
    omega
theorem slice_all (l : List Nat) : Txt.slice (txt l) none none = txt l := by
  rw [slice_gen l none none 0 l.length (by omega) (by omega)]
  · simp
  · rfl
theorem len_txt (l : List Nat) : (txt l).length = l.length := by simp [txt, PySem.Str.length]
section
variable {prog : Program} {w : World} {A : Around} {E : Value → Shared → Prop} {s : Shared} {Q : Value → Shared → Prop} {l : List Nat} {t : Tok} {h₀ : Heap} {L : Addr} {m : PySem.Str → Option Value} {news : List (Addr × Obj)} {value slice : PySem.Expr}
theorem sliceDrop {i : Int} {ui : Tok} (hz : l.length ≤ 500000) (h0 : 0 ≤ i) (h1 : i ≤ l.length) (hF : Fr h₀ L s.heap m) (hN : News h₀ L s.heap news) (h : ∀ h' t' k, Fr h₀ L h' m → News h₀ L h' news → (l.drop i.toNat).length = l.length - i.toNat → Q (.str (txt (l.drop i.toNat)) t') { s with heap := h', toks := k })
    (hs : subscripted slice false (.str (txt l) t) (.ref s.heap.objs.size) = operate [.ref s.heap.objs.size, .str (txt l) t] (getItem (.str (txt l) t) (.ref s.heap.objs.size)) := by with_unfolding_all rfl)
    (ht : ∀ r, letTemporaryGo value (.str (txt l) t) r = pure () := by intro _; with_unfolding_all rfl) :
    wpAny (model prog w) A (subscriptTail value slice (.str (txt l) t) (.ref s.heap.objs.size)) Q E { s with heap := s.heap.push { cls := .type "slice", data := .fields #[.int i ui, .none, .none] } } :=
  slice_strN_sn hF hN (by rw [slice_drop l i h0 h1]; exact fun h' t' k a b => h h' t' k a b List.length_drop) hs ht (by rw [len_txt, PySem.sizeLine_eq]; omega)
theorem sliceTake {j : Int} {uj : Tok} (hz : l.length ≤ 500000) (h0 : j < 0) (h1 : -(l.length : Int) ≤ j) (hF : Fr h₀ L s.heap m) (hN : News h₀ L s.heap news) (h : ∀ h' t' k, Fr h₀ L h' m → News h₀ L h' news → (l.take (l.length - (-j).toNat)).length = l.length - (-j).toNat → Q (.str (txt (l.take (l.length - (-j).toNat))) t') { s with heap := h', toks := k })
    (hs : subscripted slice false (.str (txt l) t) (.ref s.heap.objs.size) = operate [.ref s.heap.objs.size, .str (txt l) t] (getItem (.str (txt l) t) (.ref s.heap.objs.size)) := by with_unfolding_all rfl)
    (ht : ∀ r, letTemporaryGo value (.str (txt l) t) r = pure () := by intro _; with_unfolding_all rfl) :
    wpAny (model prog w) A (subscriptTail value slice (.str (txt l) t) (.ref s.heap.objs.size)) Q E { s with heap := s.heap.push { cls := .type "slice", data := .fields #[.none, .int j uj, .none] } } :=
  slice_strN_ns hF hN (by rw [slice_take l j h0 h1]; exact fun h' t' k a b => h h' t' k a b (by rw [List.length_take]; omega)) hs ht (by rw [len_txt, PySem.sizeLine_eq]; omega)
theorem sliceAll (hz : l.length ≤ 500000) (hF : Fr h₀ L s.heap m) (hN : News h₀ L s.heap news) (h : ∀ h' t' k, Fr h₀ L h' m → News h₀ L h' news → Q (.str (txt l) t') { s with heap := h', toks := k })
    (hs : subscripted slice false (.str (txt l) t) (.ref s.heap.objs.size) = operate [.ref s.heap.objs.size, .str (txt l) t] (getItem (.str (txt l) t) (.ref s.heap.objs.size)) := by with_unfolding_all rfl)
    (ht : ∀ r, letTemporaryGo value (.str (txt l) t) r = pure () := by intro _; with_unfolding_all rfl) :
    wpAny (model prog w) A (subscriptTail value slice (.str (txt l) t) (.ref s.heap.objs.size)) Q E { s with heap := s.heap.push { cls := .type "slice", data := .fields #[.none, .none, .none] } } :=
  slice_strN_nn hF hN (by rw [slice_all l]; exact h) hs ht (by rw [len_txt, PySem.sizeLine_eq]; omega)
theorem charAt9 {i : Int} {ui : Tok} (hz : l.length ≤ 500000) (j : Nat) (hj : j < l.length) (e : i = (j : Int) ∨ i = (j : Int) - l.length) (h : ∀ t' k, Q (.str (one (l.getD j 0)) t') { s with toks := k })
    (hs : subscripted slice false (.str (txt l) t) (.int i ui) = operate [.str (txt l) t, .int i ui] (getItem (.str (txt l) t) (.int i ui)))
    (ht : ∀ r, letTemporaryGo value (.str (txt l) t) r = pure ()) :
    wpAny (model prog w) A (subscriptTail value slice (.str (txt l) t) (.int i ui)) Q E s := by
  refine tail_of_ItemOn ⟨"str", _, F.slot_str_getitem.lookup, typeIs_str _ _ _, P.getItem_str (c := l.getD j 0) ?_ ?_ (h _ _)⟩ hs ht
  · simp; omega
  · rw [len_txt]
    have hi : seqIndex? i l.length = some j := by
      have e2 : (if i < 0 then i + (l.length : Int) else i) = (j : Int) := by split <;> omega
      unfold seqIndex?
      dsimp only
      rw [e2, if_pos (by simp; omega)]
      simp
    rw [hi]
    show (txt l).cps[j]? = _
    simp [txt, hj]
theorem charPos {i : Int} {ui : Tok} (hz : l.length ≤ 500000) (h0 : 0 ≤ i) (h1 : i < l.length) (h : ∀ t' k, Q (.str (one (l.getD i.toNat 0)) t') { s with toks := k })
    (hs : subscripted slice false (.str (txt l) t) (.int i ui) = operate [.str (txt l) t, .int i ui] (getItem (.str (txt l) t) (.int i ui)) := by with_unfolding_all rfl)
    (ht : ∀ r, letTemporaryGo value (.str (txt l) t) r = pure () := by intro _; with_unfolding_all rfl) :
    wpAny (model prog w) A (subscriptTail value slice (.str (txt l) t) (.int i ui)) Q E s := charAt9 hz i.toNat (by omega) (.inl (by omega)) h hs ht
theorem charNeg {i : Int} {ui : Tok} (hz : l.length ≤ 500000) (h0 : i < 0) (h1 : -(l.length : Int) ≤ i) (h : ∀ t' k, Q (.str (one (l.getD (l.length - (-i).toNat) 0)) t') { s with toks := k })
    (hs : subscripted slice false (.str (txt l) t) (.int i ui) = operate [.str (txt l) t, .int i ui] (getItem (.str (txt l) t) (.int i ui)) := by with_unfolding_all rfl)
    (ht : ∀ r, letTemporaryGo value (.str (txt l) t) r = pure () := by intro _; with_unfolding_all rfl) :
    wpAny (model prog w) A (subscriptTail value slice (.str (txt l) t) (.int i ui)) Q E s := charAt9 hz (l.length - (-i).toNat) (by omega) (.inr (by omega)) h hs ht
theorem truthyT {Q : Bool → Shared → Prop} (hz : l.length ≤ 500000) (h : ∀ k, Q (decide (0 < l.length)) { s with toks := k }) : wpAny (model prog w) A (truthy (.str (txt l) t)) Q E s := by
  refine P.truthy_str (by rw [len_txt]; omega) ?_
  have e : (((txt l).length : Int) != 0) = decide (0 < l.length) := by
    rw [len_txt]
    cases l with
    | nil => rfl
    | cons c r => simp; omega
  rw [e]; exact h _
theorem eqT {a b : List Nat} {u : Tok} (h : Q (.bool (decide (a = b))) s) : wpAny (model prog w) A (compareOp .Eq (.str (txt a) t) (.str (txt b) u)) Q E s := by
  refine P.eq_str ?_
  have e : ((txt a).cps.toList == (txt b).cps.toList) = decide (a = b) := by simp [txt, Bool.beq_eq_decide_eq]
  rw [e]; exact h
theorem eqOne {a b : Nat} {u : Tok} (h : Q (.bool (decide (a = b))) s) : wpAny (model prog w) A (compareOp .Eq (.str (one a) t) (.str (one b) u)) Q E s := by
  refine P.eq_str ?_
  have e : ((one a).cps.toList == (one b).cps.toList) = decide (a = b) := by simp [one, Bool.beq_eq_decide_eq]
  rw [e]; exact h
theorem lenT (hz : l.length ≤ 500000) (h : ∀ t' k, Q (.int (l.length : Int) t') { s with toks := k }) : wpAny (model prog w) A (call (.builtin "len") [.str (txt l) t]) Q E s := by
  refine P.len_str (by rw [len_txt]; omega) ?_
  rw [len_txt]; exact h _ _
end
end
section
open PySem.Calls
/-- the ways out of a loop meet -/
def WJ {σ : Type} (h₀ : Heap) (L : Addr) (s : Shared) (Led : σ → List (Addr × Obj)) (ps : σ → List (Str × Value)) (P : σ → Prop) (m₀ : Str → Option Value) (f : Flow) (s₂ : Shared) : Prop :=
  f = .next ∧ ∃ (c : σ) (h : Heap) (tk : Nat), s₂ = { s with heap := h, toks := tk } ∧ P c ∧ Fr h₀ L h (kstB m₀ (ps c)) ∧ News h₀ L h (Led c)
theorem one_same (x : Str) (u : Value) (r : Str → Option Value) : (fun z => if z = x then some u else r z) = kstB (fun z => if z = x then some u else r z) [(x, u)] := by
  funext z
  show _ = if z = x then some u else if z = x then some u else r z
  by_cases h : z = x
  · simp only [if_pos h]
  · simp only [if_neg h]
theorem news1 {h₀ h : Heap} {L : Addr} {p : Addr × Obj} {r : List (Addr × Obj)} (N : News h₀ L h (p :: r)) : News h₀ L h [p] := fun q hq => N q (by rw [List.mem_singleton.mp hq]; exact List.Mem.head _)
section
variable {prog : Program} {w : World} {A : Around} {E : Value → Shared → Prop} {Q : Flow → Shared → Prop} {s : Shared} {env : Env} {h₀ : Heap} {L : Addr} {σ : Type} {Led : σ → List (Addr × Obj)} {ps : σ → List (Str × Value)} {P : σ → Prop} {m₀ : Str → Option Value}
theorem WJ.mk {h : Heap} {tk : Nat} {m : Str → Option Value} (c : σ) (hp : P c) (F : Fr h₀ L h m) (N : News h₀ L h (Led c)) (e : m = kstB m₀ (ps c)) : WJ h₀ L s Led ps P m₀ .next { s with heap := h, toks := tk } := ⟨rfl, c, h, tk, rfl, hp, e ▸ F, N⟩
theorem whileJ {test : Expr} {body : List Stmt} {pos : Pos} (Led : σ → List (Addr × Obj)) (ps : σ → List (Str × Value)) (P : σ → Prop) (μ : σ → Nat) (c₀ : σ)
    (F : Fr h₀ L s.heap m₀) (N : News h₀ L s.heap (Led c₀)) (hk : ∀ p ∈ ps c₀, m₀ p.1 = some p.2) (hp : P c₀)
    (turn : ∀ (c : σ) h tk, P c → Fr h₀ L h (kstB m₀ (ps c)) → News h₀ L h (Led c) →
      wpAny (model prog w) A (isTrue test env (eval test env)) (fun b s₂ =>
        if b = true then wpAny (model prog w) A (execs body env) (KswPost h₀ L s Led ps (fun _ => True) [] m₀ P μ (WJ h₀ L s Led ps P m₀) c) E s₂ else WJ h₀ L s Led ps P m₀ .next s₂) E { s with heap := h, toks := tk })
    (done : ∀ (c : σ) h tk, P c → Fr h₀ L h (kstB m₀ (ps c)) → News h₀ L h (Led c) → Q .next { s with heap := h, toks := tk })
    (hE : PassesOwn (model prog w) A env E := by passes_own) :
    wpAny (model prog w) A (exec (.While test body [] pos) env) Q E s := by
  refine wpAny_mono (ksw_while (Q := WJ h₀ L s Led ps P m₀) Led ps (fun _ => True) [] P μ c₀ F N trivial hk hp ?_ hE) ?_ fun _ _ e => e
  · intro c u h tk _ hp F N
    exact turn c h tk hp F N
  · rintro f s₂ ⟨rfl, c, h, tk, rfl, hp, F, N⟩
    exact done c h tk hp F N
/-- the ways of a statement meet -/
theorem meetJ {t : Sem Flow} {news : List (Addr × Obj)} (Led : σ → List (Addr × Obj)) (ps : σ → List (Str × Value)) (P : σ → Prop) (_ : Fr h₀ L s.heap m₀) (_ : News h₀ L s.heap news) (h : wpAny (model prog w) A t (WJ h₀ L s Led ps P m₀) E s)
    (done : ∀ (c : σ) h tk, P c → Fr h₀ L h (kstB m₀ (ps c)) → News h₀ L h (Led c) → Q .next { s with heap := h, toks := tk }) : wpAny (model prog w) A t Q E s := by
  refine wpAny_mono h ?_ fun _ _ e => e
  rintro f s₂ ⟨rfl, c, h, tk, rfl, hp, F, N⟩
  exact done c h tk hp F N
end
end
section
open PySem.Calls
/-- the lesser one (hidden from omega: it would part cases at every step) -/
def MinIs (r a b : Int) : Prop := r = min a b
section
variable {prog : Program} {w : World} {A : Around} {E : Value → Shared → Prop} {s : Shared} {Q : Value → Shared → Prop} {h₀ : Heap} {L : Addr} {m : Str → Option Value} {news : List (Addr × Obj)}
theorem minW {a b : Int} {t u : Tok} (hh : A.handled = none) (F : Fr h₀ L s.heap m) (N : News h₀ L s.heap news)
    (h : ∀ h' t' tk r, Fr h₀ L h' m → News h₀ L h' news → MinIs r a b → Q (.int r t') { s with heap := h', toks := tk }) : wpAny (model prog w) A (call (.builtin "min") [.int a t, .int b u]) Q E s :=
  min_two_N hh F N fun h' tk F' N' => h _ _ _ _ F' N' (by unfold MinIs; split <;> omega)
theorem listRangeW {r : Addr} {a b c : Int} {t u v : Tok} (n : Nat) (hh : A.handled = none) (F : Fr h₀ L s.heap m) (N : News h₀ L s.heap news) (hr : IsRange s.heap r a b c t u v) (hsmall : Builtin.Range.small a b c = true) (hn : Builtin.Range.rangeSize a b c = (n : Int)) (hlen : n ≤ 1000)
    (h : ∀ h' tk D ys cnt, Fr h₀ L h' m → News h₀ L h' ((D, W.listOf ys.toArray cnt) :: news) → IntsAre ys (rangeInts a c n) → Q (.ref D) { s with heap := h', toks := tk }) : wpAny (model prog w) A (call (.type "list") [.ref r]) Q E s :=
  list_rangeD hh F N hr hsmall hn (by omega) fun h' tk ys F' N' _ hf _ hp hc => by
    obtain ⟨⟨cnt, e⟩, _⟩ := hp
    exact h h' tk _ ys cnt F' (News.more F' N' e (fun _ _ q => nomatch q) hf) (IntsAre.ofCarried hc)
end
theorem rs2 : ∀ n : Nat, n ≤ 16 → Builtin.Range.small 2 (2 * ((n : Int) + 1)) 2 = true ∧ Builtin.Range.rangeSize 2 (2 * ((n : Int) + 1)) 2 = (n : Int) := by decide
theorem rs1 : ∀ n : Nat, n ≤ 16 → Builtin.Range.small 0 (n : Int) 1 = true ∧ Builtin.Range.rangeSize 0 (n : Int) 1 = (n : Int) := by decide
end
section
theorem lower_one : ∀ c, c < 128 → Txt.lower (one c) = one (low c) := by decide +kernel
theorem one_inj {c d : Nat} : one c = one d ↔ c = d := by
  constructor
  · intro h; simpa [one] using h
  · intro h; rw [h]
theorem subc_one {c d : Nat} (hc : c < 128) (hd : d < 128) : subc (one c) (one d) = cost c d := by
  unfold subc cost
  rw [lower_one c hc, lower_one d hd]
  simp only [one_inj]
theorem ascii_getD {l : List Nat} (h : ∀ c ∈ l, c < 128) (i : Nat) : l.getD i 0 < 128 := by
  by_cases hi : i < l.length
  · refine h _ (List.mem_of_getElem? (i := i) ?_)
    rw [List.getElem?_eq_getElem hi, List.getD_eq_getElem?_getD, List.getElem?_eq_getElem hi]; rfl
  · rw [List.getD_eq_getElem?_getD, List.getElem?_eq_none (by omega)]; simp
/-- the shorter one and the longer one -/
def Swap (A B a b : List Nat) : Prop := (a = A ∧ b = B ∧ A.length ≤ B.length) ∨ (a = B ∧ b = A ∧ B.length < A.length)
theorem swap_len {A B a b : List Nat} (h : Swap A B a b) : a.length ≤ b.length ∧ (a.length = A.length ∧ b.length = B.length ∨ a.length = B.length ∧ b.length = A.length) := by
  rcases h with ⟨rfl, rfl, h⟩ | ⟨rfl, rfl, h⟩ <;> omega
theorem swap_ascii {A B a b : List Nat} (h : Swap A B a b) (hA : ∀ c ∈ A, c < 128) (hB : ∀ c ∈ B, c < 128) : (∀ c ∈ a, c < 128) ∧ ∀ c ∈ b, c < 128 := by
  rcases h with ⟨rfl, rfl, _⟩ | ⟨rfl, rfl, _⟩
  · exact ⟨hA, hB⟩
  · exact ⟨hB, hA⟩
theorem part_ascii {A : List Nat} {p k : Nat} (h : ∀ c ∈ A, c < 128) : ∀ c ∈ (A.drop p).take k, c < 128 := fun c hc => h c (List.mem_of_mem_drop (List.mem_of_mem_take hc))
theorem row_start {a b : List Nat} {ys : List Value} (h : IntsAre ys (rangeInts 2 2 a.length)) : IntsAre ys (rowAt a b 0 0) := by
  have e : rowAt a b 0 0 = rangeInts 2 2 a.length := by
    rw [rowAt_first]
    unfold rangeInts
    exact List.map_congr_left fun t _ => by omega
  rw [e]; exact h
/-- between the turns of the outer loop -/
def OutI (a b : List Nat) (mx : Int) (i : Nat) (res : Int) (us : List Value) : Prop := Kept a b mx i ∧ (i ≠ 0 → res = cell a b i a.length) ∧ IntsAre us (rowAt a b i 0)
theorem out0 {a b : List Nat} {mx : Int} {us : List Value} (h : IntsAre us (rowAt a b 0 0)) : OutI a b mx 0 0 us := ⟨fun _ h => absurd h (Nat.not_lt_zero _), fun h => absurd rfl h, h⟩
/-- between the turns of the inner loop -/
def InI (a b : List Nat) (i j : Nat) (res dist mn : Int) (us : List Value) : Prop := res = resAt a b i j ∧ dist = cell a b i j ∧ mn = minAt a b i j ∧ IntsAre us (rowAt a b i j)
theorem InI.len {a b : List Nat} {i j : Nat} {res dist mn : Int} {us : List Value} (h : InI a b i j res dist mn us) : us.length = a.length := by rw [h.2.2.2.length, rowAt_len]
theorem InI.row {a b : List Nat} {i j : Nat} {res dist mn : Int} {us : List Value} (h : InI a b i j res dist mn us) : IntsAre us (rowAt a b i j) := h.2.2.2
theorem OutI.row {a b : List Nat} {mx : Int} {i : Nat} {res : Int} {us : List Value} (h : OutI a b mx i res us) : IntsAre us (rowAt a b i 0) := h.2.2
theorem in0 {a b : List Nat} {mx : Int} {i : Nat} {res k : Int} {us : List Value} (h : OutI a b mx i res us) (hk : k = 0 + (i : Int) * 1) : InI a b i 0 (k * 2) (k * 2) 9223372036854775807 us := by
  refine ⟨?_, ?_, rfl, h.2.2⟩
  · unfold resAt; rw [if_pos rfl]; omega
  · rw [cell_zero]; omega
theorem in_turn {a b : List Nat} {i : Nat} {pi : List Int} {res dist mn k k' r1 r2 z : Int} {us : List Value} {t : Tok} (ha : ∀ c ∈ a, c < 128) (hb : ∀ c ∈ b, c < 128) (h : InI a b i pi.length res dist mn us) (hk : k = 0 + (pi.length : Int) * 1) (hk' : k' = 0 + (i : Int) * 1) (hj : pi.length < a.length)
    (m1 : MinIs r1 res ((rowAt a b i pi.length).getD k.toNat 0)) (m2 : MinIs r2 (r1 + 2) (dist + subc (one (b.getD k'.toNat 0)) (one (a.getD k.toNat 0)))) :
    (r2 < mn → InI a b i (pi ++ [z]).length r2 ((rowAt a b i pi.length).getD k.toNat 0) r2 (us.set k.toNat (.int r2 t))) ∧
    (¬ r2 < mn → InI a b i (pi ++ [z]).length r2 ((rowAt a b i pi.length).getD k.toNat 0) mn (us.set k.toNat (.int r2 t))) := by
  obtain ⟨h1, h2, h3, h4⟩ := h
  generalize hj' : pi.length = j at *
  have e : k.toNat = j := by omega
  have e' : k'.toNat = i := by omega
  have hl : (pi ++ [z]).length = j + 1 := by rw [List.length_append, List.length_singleton, hj']
  unfold MinIs at m1 m2
  rw [e, rowAt_get hj, h1] at m1
  rw [e, e', subc_one (ascii_getD hb _) (ascii_getD ha _), h2, m1, cell_next] at m2
  rw [e, hl, rowAt_get hj, h3, m2]
  have r : resAt a b i (j + 1) = cell a b (i + 1) (j + 1) := by unfold resAt; rw [if_neg (by omega)]
  have row : IntsAre (us.set j (.int (cell a b (i + 1) (j + 1)) t)) (rowAt a b i (j + 1)) := by
    rw [← rowAt_set]; exact ints_set h4 j
  refine ⟨fun hlt => ⟨r.symm, rfl, ?_, row⟩, fun hlt => ⟨r.symm, rfl, ?_, row⟩⟩
  · rw [minAt]; omega
  · rw [minAt]; omega
theorem in_end {a b : List Nat} {i : Nat} {res res₀ dist mn mx : Int} {us us₀ : List Value} (ha : 0 < a.length) (h₀ : OutI a b mx i res₀ us₀) (h : InI a b i a.length res dist mn us) (hm : ¬ mx < mn) : OutI a b mx (i + 1) res us := by
  obtain ⟨h1, h2, h3, h4⟩ := h
  refine ⟨fun t ht => ?_, fun _ => ?_, by rw [← rowAt_next]; exact h4⟩
  · by_cases e : t = i
    · subst e; rw [← h3]; omega
    · exact h₀.1 t (by omega)
  · rw [h1]; unfold resAt; rw [if_neg (by omega)]
theorem in_cut {a b : List Nat} {i : Nat} {res dist mn mx : Int} {us : List Value} (hi : i < b.length) (h : InI a b i a.length res dist mn us) (hm : mx < mn) : Dp a b mx (mx + 1) := .inr ⟨i, hi, by rw [← h.2.2.1]; exact hm, rfl⟩
theorem out_end {a b : List Nat} {res mx : Int} {us : List Value} (hb : 0 < b.length) (h : OutI a b mx b.length res us) : Dp a b mx res := .inl ⟨h.1, h.2.1 (by omega)⟩
theorem core_dp {A B a b : List Nat} {mx r : Int} (hA : 0 < A.length) (hB : 0 < B.length) (hs : Swap A B a b) (h : Dp a b mx r) : Core A B mx r :=
  .inr ⟨List.length_pos_iff.mp hA, List.length_pos_iff.mp hB, a, b, hs, .inr h⟩
theorem core_len {A B a b : List Nat} {mx : Int} (hA : 0 < A.length) (hB : 0 < B.length) (hs : Swap A B a b) (h : mx < ((b.length : Int) - a.length) * 2) : Core A B mx (mx + 1) :=
  .inr ⟨List.length_pos_iff.mp hA, List.length_pos_iff.mp hB, a, b, hs, .inl ⟨h, rfl⟩⟩
theorem core_nil {A B : List Nat} {mx : Int} (h : ¬ 0 < A.length ∨ ¬ 0 < B.length) : Core A B mx (2 * ((A.length : Int) + B.length)) := by
  refine .inl ⟨?_, rfl⟩
  rcases h with h | h
  · exact .inl (List.length_eq_zero_iff.mp (by omega))
  · exact .inr (List.length_eq_zero_iff.mp (by omega))
theorem lev_build {A B A1 B1 : List Nat} {p q : Nat} {mx r : Int} (hn : ¬ A = B) (hp : A.take p = B.take p) (hq : (A.drop p).drop ((A.drop p).length - q) = (B.drop p).drop ((B.drop p).length - q))
    (hA : A1 = (A.drop p).take ((A.drop p).length - q)) (hB : B1 = (B.drop p).take ((B.drop p).length - q)) (h : Core A1 B1 mx r) : Lev A B mx r := by
  refine lev_core (P := A.take p) (S := (A.drop p).drop ((A.drop p).length - q)) (A' := A1) (B' := B1) hn ?_ ?_ h
  · rw [hA, List.append_assoc, List.take_append_drop, List.take_append_drop]
  · rw [hq, hp, hB, List.append_assoc, List.take_append_drop, List.take_append_drop]
theorem take_step {A B : List Nat} {p : Nat} (h : A.take p = B.take p) (ha : p < A.length) (hb : p < B.length) (e : A.getD p 0 = B.getD p 0) : A.take (p + 1) = B.take (p + 1) := by
  have g : ∀ l : List Nat, p < l.length → l[p]? = some (l.getD p 0) := fun l hl => by rw [List.getElem?_eq_getElem hl, List.getD_eq_getElem?_getD, List.getElem?_eq_getElem hl]; rfl
  rw [List.take_add_one, List.take_add_one, h, g A ha, g B hb, e]
theorem drop_step {A B : List Nat} {q : Nat} (h : A.drop (A.length - q) = B.drop (B.length - q)) (ha : q < A.length) (hb : q < B.length) (e : A.getD (A.length - (q + 1)) 0 = B.getD (B.length - (q + 1)) 0) : A.drop (A.length - (q + 1)) = B.drop (B.length - (q + 1)) := by
  have g : ∀ l : List Nat, q < l.length → l.drop (l.length - (q + 1)) = l.getD (l.length - (q + 1)) 0 :: l.drop (l.length - q) := fun l hl => by
    have hi : l.length - (q + 1) < l.length := by omega
    rw [List.drop_eq_getElem_cons hi, List.getD_eq_getElem?_getD, List.getElem?_eq_getElem hi, show l.length - (q + 1) + 1 = l.length - q by omega]; rfl
  rw [g A ha, g B hb, e, h]
/-- between the turns of the first while, of the second one -/
def PreI (A B : List Nat) (c : Int × Tok) : Prop := 0 ≤ c.1 ∧ c.1 ≤ A.length ∧ c.1 ≤ B.length ∧ A.take c.1.toNat = B.take c.1.toNat
def PostI (A B : List Nat) (c : Int × Tok) : Prop := c.1 ≤ 0 ∧ -c.1 ≤ A.length ∧ -c.1 ≤ B.length ∧ A.drop (A.length - (-c.1).toNat) = B.drop (B.length - (-c.1).toNat)
theorem preI0 (A B : List Nat) (t : Tok) : PreI A B (0, t) := ⟨by simp, by simp, by simp, by simp⟩
theorem postI0 (A B : List Nat) (t : Tok) : PostI A B (0, t) := ⟨by simp, by simp, by simp, by simp⟩
theorem pre_turn {A B : List Nat} {p : Int} {t : Tok} (p1 : 0 ≤ p) (p4 : A.take p.toNat = B.take p.toNat) (ha : p < A.length) (hb : p < B.length) (e : A.getD p.toNat 0 = B.getD p.toNat 0) : PreI A B (p + 1, t) := by
  refine ⟨?_, ?_, ?_, ?_⟩
  · show 0 ≤ p + 1; omega
  · show p + 1 ≤ _; omega
  · show p + 1 ≤ _; omega
  · show A.take (p + 1).toNat = B.take (p + 1).toNat
    rw [show (p + 1).toNat = p.toNat + 1 by omega]
    exact take_step p4 (by omega) (by omega) e
theorem post_turn {A B : List Nat} {p : Int} {t : Tok} (p1 : p ≤ 0) (p4 : A.drop (A.length - (-p).toNat) = B.drop (B.length - (-p).toNat)) (ha : -p < A.length) (hb : -p < B.length) (e : A.getD (A.length - (-(p - 1)).toNat) 0 = B.getD (B.length - (-(p - 1)).toNat) 0) : PostI A B (p - 1, t) := by
  refine ⟨?_, ?_, ?_, ?_⟩
  · show p - 1 ≤ 0; omega
  · show -(p - 1) ≤ _; omega
  · show -(p - 1) ≤ _; omega
  · show A.drop (A.length - (-(p - 1)).toNat) = B.drop (B.length - (-(p - 1)).toNat)
    rw [show (-(p - 1)).toNat = (-p).toNat + 1 by omega] at e ⊢
    exact drop_step p4 (by omega) (by omega) e
end
section
open PySem.Calls Builtin LCg
section
variable {prog : Program} {w : World} {A : Around} {E : Value → Shared → Prop} {s : Shared} {h₀ : Heap} {L : Addr} {m : PySem.Str → Option Value} {env : Env} {elt ct iter : Expr} {x : PySem.Str} {px pos : Pos} {scope : Scope} {cl : List (PySem.Str × Addr)} {news : List (Addr × Obj)}
theorem stList {l I : Addr} {ol : Obj} {vs : List Value} {S : List (Addr × Obj) → Prop} (hkeep : ∀ (h' : Heap) nw, h₀.StaysIn h' → News h₀ L h' nw → S nw → h'.get? l = some ol) (hl : ∀ h' : Heap, h'.get? l = some ol → h'.IsList l vs.toArray) :
    ∀ i (h h' : Heap) (o : Obj) nw, (h.IsListIter I l i ∧ h.IsList l vs.toArray) → h.get? I = some o → h'.get? I = some o → (∀ b o, h₀.get? b = some o → h'.get? b = some o) → News h₀ L h' nw → S nw → (h'.IsListIter I l i ∧ h'.IsList l vs.toArray) := by
  rintro i h h' o nw ⟨st, _⟩ e e' k N hs
  exact ⟨st.at fun o' q => by rw [e] at q; cases q; exact e', hl _ (hkeep _ _ k N hs)⟩
/-- [elt for x in list of ints] -/
theorem compLU {l : Addr} {ol : Obj} {vs : List Value} {ns : List Int} {Q : Value → Shared → Prop} (S : List (Addr × Obj) → Prop) (Rel : Nat → List Value → Prop) (hS : S news)
    (hkeep : ∀ (h' : Heap) nw, h₀.StaysIn h' → News h₀ L h' nw → S nw → h'.get? l = some ol) (hl : ∀ h' : Heap, h'.get? l = some ol → h'.IsList l vs.toArray) (hint : IntsAre vs ns)
    (hh : A.handled = none) (F : Fr h₀ L s.heap m) (N : News h₀ L s.heap news)
    (hclos : closureFor scope env = pure cl) (hcell : ∀ y ∈ scope.names, y.2 ≠ .cell) (hkind : scope.kind = .function)
    (hnames : ∀ y ∈ scope.names, y.2 = .local → scope.names.lookup y.1 = some .local) (hx : scope.names.lookup x = some .local)
    (hi : wpAny (model prog w) A (eval iter env) (fun xv s₁ => xv = .ref l ∧ s₁ = s) E s) (hsz : ns.length ≤ sizeLine) (h0 : Rel 0 [])
    (turn : ∀ s₂ i (k : Int) u ys I oI C oC D m₂ h tk (E' : Value → Shared → Prop), ns[i]? = some k → Rel i ys → NsObj oC m₂ → m₂ x = some (.int k u) → Fr h₀ L h m → News h₀ L h ((I, oI) :: (C, oC) :: (D, lst ys) :: news) →
      wpAny (model prog w) A (eval elt (compEnvC scope cl C env)) (Pend s₂ h fun y => Rel (i + 1) (ys ++ [y])) E' { s₂ with heap := h, toks := tk })
    (fin : ∀ D ys h tk, Rel ns.length ys → Fr h₀ L h m → News h₀ L h ((D, lst ys) :: news) → Q (.ref D) { s with heap := h, toks := tk })
    (hs : ∀ x, foldedSetIterable iter env x = pure x := by intro _; rfl) :
    wpAny (model prog w) A (eval (.ListComp elt [⟨.Name x px, iter, [], 0⟩] scope pos) env) Q E s := by
  rw [eval_ListComp]
  refine wpAny_comprehension_free (use := none) rfl hs hclos hkind hnames (wpAny_mono hi (fun xv s₁ h₁ => ?_) fun _ _ e => e)
  obtain ⟨rfl, rfl⟩ := h₁
  have hol : s₁.heap.get? l = some ol := hkeep _ _ F.keep N hS
  have hls := hl _ hol
  have hne : l ≠ s₁.heap.objs.size := Nat.ne_of_lt (Heap.lt_size hol)
  have hlen : vs.toArray.size = ns.length := by simp [hint.length]
  refine wpAny_pyIter_list hls ?_
  have up : ∀ b' o, s₁.heap.get? b' = some o → (s₁.heap.push { cls := .type "list_iterator", data := .fields #[.ref l, .int 0 0] }).get? b' = some o := fun b o e => Heap.get?_push_of_some _ e
  have W := Walks.list (prog := prog) (w := w) hh s₁.heap.objs.size l hne vs.toArray
  rw [hlen] at W
  refine block_U (S := S) (Fin := fun ys nw => nw = news ∧ Rel ns.length ys) W hsz (fun i h st => by obtain ⟨⟨o, e, _⟩, _⟩ := st; exact ⟨o, e⟩) (stList hkeep hl) hcell hkind hx ⟨⟨_, Heap.get?_push_size _ rfl, rfl, rfl⟩, hls.at fun o e => up _ _ e⟩ (fun b hb => ?_)
    (F.keeps up) (N.grown up) (Nat.ne_of_lt F.ns.lt) (next_is_new F) (fun p hp => Nat.ne_of_lt (Heap.lt_size (N p hp).1)) hS (rest_U hS Rel (fun i v ys I oI C oC D m₂ h tk E' hlt hv hr hC hx' F' N' => ?_) (fun ys hr => ⟨rfl, hr⟩) _ 0 [] (by omega) h0) ?_
  · show b < (s₁.heap.push _).objs.size
    rw [Heap.size_push]
    rcases List.mem_cons.mp hb with rfl | hb
    · exact Nat.lt_succ_self _
    · rw [List.mem_singleton.mp hb]; exact Nat.lt_succ_of_lt (Heap.lt_size hol)
  · obtain ⟨t, ht⟩ := hint.get i ns[i] (by simp [hlt])
    have hv' : v = .int ns[i] t := by
      have hP' : vs[i]? = some v := by simpa using hv
      rw [ht] at hP'; exact (Option.some.inj hP').symm
    subst hv'
    exact turn _ i ns[i] t ys I oI C oC D m₂ h tk E' (by simp [hlt]) hr hC hx' F' N'
  · intro D C h tk m' ys news' F' N' o1 hn hC₀ hD₀ hCL hDL hCD offC fin'
    obtain ⟨rfl, hr⟩ := fin'
    refine ⟨m', hn, fun h'' hs'' => fin D ys h'' tk hr (F'.change hs'' hCL hC₀) (fun p hp => ?_)⟩
    refine ⟨hs''.extBut _ _ ?_ (N' p hp).1, (N' p hp).2⟩
    rcases List.mem_cons.mp hp with rfl | hp
    · exact Ne.symm hCD
    · exact offC p hp
/-- [elt for x in list of ints if ct] -/
theorem compLT {l : Addr} {ol : Obj} {vs : List Value} {ns : List Int} {Q : Value → Shared → Prop} (S : List (Addr × Obj) → Prop) (Rel : Nat → List Value → Prop) (hS : S news)
    (hkeep : ∀ (h' : Heap) nw, h₀.StaysIn h' → News h₀ L h' nw → S nw → h'.get? l = some ol) (hl : ∀ h' : Heap, h'.get? l = some ol → h'.IsList l vs.toArray) (hint : IntsAre vs ns)
    (hh : A.handled = none) (F : Fr h₀ L s.heap m) (N : News h₀ L s.heap news)
    (hclos : closureFor scope env = pure cl) (hcell : ∀ y ∈ scope.names, y.2 ≠ .cell) (hkind : scope.kind = .function)
    (hnames : ∀ y ∈ scope.names, y.2 = .local → scope.names.lookup y.1 = some .local) (hx : scope.names.lookup x = some .local)
    (hi : wpAny (model prog w) A (eval iter env) (fun xv s₁ => xv = .ref l ∧ s₁ = s) E s) (hsz : ns.length ≤ sizeLine) (h0 : Rel 0 [])
    (turn : ∀ s₂ i (k : Int) u ys I oI C oC D m₂ h tk (E' : Value → Shared → Prop), ns[i]? = some k → Rel i ys → NsObj oC m₂ → m₂ x = some (.int k u) → Fr h₀ L h m → News h₀ L h ((I, oI) :: (C, oC) :: (D, lst ys) :: news) →
      wpAny (model prog w) A (isTrue ct (compEnvC scope cl C env) (eval ct (compEnvC scope cl C env))) (fun ok s' => if ok = true then
        wpAny (model prog w) A (eval elt (compEnvC scope cl C env)) (Pend s₂ h fun y => Rel (i + 1) (ys ++ [y])) E' s'
        else Pend s₂ h (fun _ => Rel (i + 1) ys) Value.none s') E' { s₂ with heap := h, toks := tk })
    (fin : ∀ D ys h tk, Rel ns.length ys → Fr h₀ L h m → News h₀ L h ((D, lst ys) :: news) → Q (.ref D) { s with heap := h, toks := tk })
    (hs : ∀ x, foldedSetIterable iter env x = pure x := by intro _; rfl) :
    wpAny (model prog w) A (eval (.ListComp elt [⟨.Name x px, iter, [ct], 0⟩] scope pos) env) Q E s := by
  rw [eval_ListComp]
  refine wpAny_comprehension_free (use := none) rfl hs hclos hkind hnames (wpAny_mono hi (fun xv s₁ h₁ => ?_) fun _ _ e => e)
  obtain ⟨rfl, rfl⟩ := h₁
  have hol : s₁.heap.get? l = some ol := hkeep _ _ F.keep N hS
  have hls := hl _ hol
  have hne : l ≠ s₁.heap.objs.size := Nat.ne_of_lt (Heap.lt_size hol)
  have hlen : vs.toArray.size = ns.length := by simp [hint.length]
  refine wpAny_pyIter_list hls ?_
  have up : ∀ b' o, s₁.heap.get? b' = some o → (s₁.heap.push { cls := .type "list_iterator", data := .fields #[.ref l, .int 0 0] }).get? b' = some o := fun b o e => Heap.get?_push_of_some _ e
  have W := Walks.list (prog := prog) (w := w) hh s₁.heap.objs.size l hne vs.toArray
  rw [hlen] at W
  refine LCt.block_T (S := S) (Fin := fun ys nw => nw = news ∧ Rel ns.length ys) W hsz (fun i h st => by obtain ⟨⟨o, e, _⟩, _⟩ := st; exact ⟨o, e⟩) (stList hkeep hl) hcell hkind hx ⟨⟨_, Heap.get?_push_size _ rfl, rfl, rfl⟩, hls.at fun o e => up _ _ e⟩ (fun b hb => ?_)
    (F.keeps up) (N.grown up) (Nat.ne_of_lt F.ns.lt) (next_is_new F) (fun p hp => Nat.ne_of_lt (Heap.lt_size (N p hp).1)) hS (rest_T hS Rel (fun i v ys I oI C oC D m₂ h tk E' hlt hv hr hC hx' F' N' => ?_) (fun ys hr => ⟨rfl, hr⟩) _ 0 [] (by omega) h0) ?_
  · show b < (s₁.heap.push _).objs.size
    rw [Heap.size_push]
    rcases List.mem_cons.mp hb with rfl | hb
    · exact Nat.lt_succ_self _
    · rw [List.mem_singleton.mp hb]; exact Nat.lt_succ_of_lt (Heap.lt_size hol)
  · obtain ⟨t, ht⟩ := hint.get i ns[i] (by simp [hlt])
    have hv' : v = .int ns[i] t := by
      have hP' : vs[i]? = some v := by simpa using hv
      rw [ht] at hP'; exact (Option.some.inj hP').symm
    subst hv'
    exact turn _ i ns[i] t ys I oI C oC D m₂ h tk E' (by simp [hlt]) hr hC hx' F' N'
  · intro D C h tk m' ys news' F' N' o1 hn hC₀ hD₀ hCL hDL hCD offC fin'
    obtain ⟨rfl, hr⟩ := fin'
    refine ⟨m', hn, fun h'' hs'' => fin D ys h'' tk hr (F'.change hs'' hCL hC₀) (fun p hp => ?_)⟩
    refine ⟨hs''.extBut _ _ ?_ (N' p hp).1, (N' p hp).2⟩
    rcases List.mem_cons.mp hp with rfl | hp
    · exact Ne.symm hCD
    · exact offC p hp
/-- y = [elt for x in list of ints if ct] -/
theorem compLTA {l : Addr} {c : Nat} {us : List Value} {ns : List Int} {y : PySem.Str} {py spos : Pos} {Q : Flow → Shared → Prop} (Rel : Nat → List Value → Prop) (hm : (l, W.listOf us.toArray c) ∈ news) (hint : IntsAre us ns)
    (hh : A.handled = none) (F : Fr h₀ L s.heap m) (N : News h₀ L s.heap news) (hLe : env.locals = L)
    (hsw : swapsWith (.ListComp elt [⟨.Name x px, iter, [ct], 0⟩] scope pos) (some (.Name y py)) spos.line env = pure true)
    (hclos : closureFor scope env = pure cl) (hcell : ∀ y ∈ scope.names, y.2 ≠ .cell) (hkind : scope.kind = .function)
    (hnames : ∀ y ∈ scope.names, y.2 = .local → scope.names.lookup y.1 = some .local) (hx : scope.names.lookup x = some .local)
    (hy : env.kindOf y = some .local) (hp : (env.scope.kind == .class || (env.scope.kind == .module && env.locals != env.globals)) = false)
    (hi : wpAny (model prog w) A (eval iter env) (fun xv s₁ => xv = .ref l ∧ s₁ = s) E s) (hsz : ns.length ≤ sizeLine) (h0 : Rel 0 [])
    (turn : ∀ s₂ i (k : Int) u ys I oI C oC D m₂ h tk (E' : Value → Shared → Prop), ns[i]? = some k → Rel i ys → NsObj oC m₂ → m₂ x = some (.int k u) → Fr h₀ L h m → News h₀ L h ((I, oI) :: (C, oC) :: (D, lst ys) :: news) →
      wpAny (model prog w) A (isTrue ct (compEnvC scope cl C env) (eval ct (compEnvC scope cl C env))) (fun ok s' => if ok = true then
        wpAny (model prog w) A (eval elt (compEnvC scope cl C env)) (Pend s₂ h fun y => Rel (i + 1) (ys ++ [y])) E' s'
        else Pend s₂ h (fun _ => Rel (i + 1) ys) Value.none s') E' { s₂ with heap := h, toks := tk })
    (fin : ∀ D ys h tk, Rel ns.length ys → Fr h₀ L h (fun z => if z = y then some (.ref D) else m z) → News h₀ L h ((D, lst ys) :: news) → Q .next { s with heap := h, toks := tk })
    (hs : ∀ x, foldedSetIterable iter env x = pure x := by intro _; rfl) :
    wpAny (model prog w) A (exec (.Assign [.Name y py] (.ListComp elt [⟨.Name x px, iter, [ct], 0⟩] scope pos) spos) env) Q E s := by
  have hlen : us.toArray.size = ns.length := by simp [hint.length]
  refine LCt.Assign_ListComp_T F hLe hsw hclos hcell hkind hnames hx hy hp (wpAny_mono hi (fun xv s₁ h₁ => ?_) fun _ _ e => e) hs
  obtain ⟨rfl, rfl⟩ := h₁
  refine LCt.CompSrcT.ledger hh F N hm (by rw [hlen]; exact hsz) fun g => ?_
  rw [hlen]
  refine rest_T (.inr ⟨_, hm, rfl, _, rfl⟩) Rel (fun i v ys I oI C oC D m₂ h tk E' hlt hv hr hC hx' F' N' => ?_) (fun ys hr D h tk F' N' _ => fin D ys h tk hr F' N') _ 0 [] (by omega) h0
  obtain ⟨t, ht⟩ := hint.get i ns[i] (by simp [hlt])
  have hv' : v = .int ns[i] t := by
    have hP' : us[i]? = some v := by simpa using hv
    rw [ht] at hP'; exact (Option.some.inj hP').symm
  subst hv'
  exact turn _ i ns[i] t ys I oI C oC D m₂ h tk E' (by simp [hlt]) hr hC hx' F' N'
theorem lenN {D : Addr} {ys : List Value} {n : Nat} {Q : Value → Shared → Prop} (N : News h₀ L s.heap news) (hm : (D, lst ys) ∈ news) (he : ys.length = n) (hz : n ≤ 1000000) (h : ∀ t' k, Q (.int (n : Int) t') { s with toks := k }) : wpAny (model prog w) A (call (.builtin "len") [.ref D]) Q E s := by
  subst he
  exact len_list (items := ys.toArray) ⟨_, (N _ hm).1, rfl, _, rfl⟩ (by rw [List.size_toArray]; omega) (by rw [List.size_toArray]; exact h _ _)
theorem ints_in {p : Int → Bool} {fs : List Int} {i : Nat} {k : Int} {u : Tok} {ys : List Value} (h : IntsAre ys ((fs.take i).filter p)) (hc : fs[i]? = some k) (hp : p k = true) : IntsAre (ys ++ [.int k u]) ((fs.take (i + 1)).filter p) := by
  rw [List.take_add_one, hc, List.filter_append]
  have e : (some k).toList.filter p = [k] := by simp [hp]
  rw [e]
  exact IntsAre.append h (.cons k u .nil)
theorem ints_out {p : Int → Bool} {fs : List Int} {i : Nat} {k : Int} {ys : List Value} (h : IntsAre ys ((fs.take i).filter p)) (hc : fs[i]? = some k) (hp : p k = false) : IntsAre ys ((fs.take (i + 1)).filter p) := by
  rw [List.take_add_one, hc, List.filter_append]
  have e : (some k).toList.filter p = [] := by simp [hp]
  rw [e, List.append_nil]
  exact h
end
end
section
open PySem.Calls
theorem fill3 : hd.heap_39 = hd.heap_39 ∧ Challenge.rw_pa0032_01 = Challenge.rw_pa0032_01 := by
  k_with_none
  w_top off
  k_fill
  exact ⟨rfl, rfl⟩
local macro_rules | `(tactic| walk_at "pyIter bytes") => `(tactic| k_extra "my iter bytes")
local macro_rules | `(tactic| walk_at "binaryOp BitAnd int int") => `(tactic| (k_here; k_dflt (first | (refine andW (bitAnd_m2 _) ?_; k_whole; intro _ _) | (refine andW (bitAnd_m4 _) ?_; k_whole; intro _ _) | (refine andW (bitAnd_m6 _) ?_; k_whole; intro _ _) | (refine andW (bitAnd_m16 _) ?_; k_whole; intro _ _))))
local macro_rules | `(tactic| walk_at "binaryOp BitOr int int") => `(tactic| (k_here; k_dflt (refine' orW (or_low _ ?a ?b) ?_; (case a => omega); (case b => omega); k_whole; intro _ _)))
local macro_rules | `(tactic| walk_at "binaryOp LShift int int") => `(tactic| (k_here; k_dflt (first | (refine' shlW 8 rfl (by decide) ?a ?b ?_; (case a => omega); (case b => omega); k_whole; intro _ _) | (refine' shlW 2 rfl (by decide) ?a ?b ?_; (case a => omega); (case b => omega); k_whole; intro _ _) | (refine' shlW 4 rfl (by decide) ?a ?b ?_; (case a => omega); (case b => omega); k_whole; intro _ _) | (refine' shlW 6 rfl (by decide) ?a ?b ?_; (case a => omega); (case b => omega); k_whole; intro _ _))))
local macro_rules | `(tactic| walk_at "binaryOp RShift int int") => `(tactic| (k_here; k_dflt (first | (refine shrW 0 rfl ?_; k_whole; intro _ _) | (refine shrW 2 rfl ?_; k_whole; intro _ _) | (refine shrW 4 rfl ?_; k_whole; intro _ _) | (refine shrW 6 rfl ?_; k_whole; intro _ _))))
local macro_rules | `(tactic| walk_at "subscriptTail") => `(tactic| k_extra "my subscript")
section
variable {w : World} {mean : ExcName → Option Value} {mg mb : Str → Option Value}
theorem c_b2a (x : Array UInt8) (tk : Tok) : Says w mean mg mb 86 2 (fun _ => x.size ≤ 500000 ∧ x.size % 3 = 0) [.bytes x tk] [(Str.ofString "newline", .bool false)] (fun _ _ r => ∃ t, r = .bytes (byteArr ((encL (KBw.bInts x)).map sgn)) t) := by
  unfold Says
  intro dp un gd cn cs a ccd cl outer A₀ base h₀ L m s Q E B F X T hk hd hu hp hret
  refine wpAny_call ?_
  refine' enter (binds := [(Str.ofString "data", .bytes x tk), (Str.ofString "newline", .bool false)]) ?k1 ?k2 ?k3 ?k5 ?kA ?kF ?kK ?k6 ?k7 ?k8 ?k9 ?kB ?_ ?c2 ?c3 ?c4 ?c5; (case kA => exact rfl); (case kF => exact rfl); (case kK => assumption); (case k1 => k_asm); (case k2 => k_asm); (case k3 => k_asm); (case k5 => k_asm); (case k6 => k_is); (case k7 => k_is); (case k8 => ktr_room); (case k9 => first | exact BindsTo.of_eq rfl | exact binds_K (by k_in) rfl (by k_is) rfl rfl rfl | fail "BINDS"); (case c5 => decide); (case kB => exact locs rfl); (case c2 => exact rfl); (case c3 => exact rfl); (case c4 => exact rfl); k_whole; intro g' L' h' hg' FG' F' N' B' X' T'; (try dsimp only); (try k_lift B'); (try k_fold)
  k_with "call ref" => (refine' use (c_buffer _ _) ?k1 ?k2 ?k3 ?k4 ?k5 ?kK ?kd ?ku ?kp ?_; (case k1 => k_asm); (case k2 => k_asm); (case k3 => k_asm); (case k4 => k_asm); (case k5 => k_asm); (case kK => first | exact rfl | assumption); (case kd => ktr_room); (case ku => ktr_units); (case kp => first | exact trivial | assumption); intro r9 h9 tk9 F9 N9 S9 P9; subst P9; (try dsimp only); (try k_fold))
  k_with "call ref" => (refine' use (c_truth _) ?k1 ?k2 ?k3 ?k4 ?k5 ?kK ?kd ?ku ?kp ?_; (case k1 => k_asm); (case k2 => k_asm); (case k3 => k_asm); (case k4 => k_asm); (case k5 => k_asm); (case kK => first | exact rfl | assumption); (case kd => ktr_room); (case ku => ktr_units); (case kp => first | exact trivial | assumption); intro r9 h9 tk9 F9 N9 S9 P9; subst P9; (try dsimp only); (try k_fold))
  k_with "my iter bytes" => (k_here; k_dflt (refine' KStb.kst_bytes (σ := Int × Tok × Int × Tok × List Int × List Value × Nat) (fun c => [(_, W.listOf c.2.2.2.2.2.1.toArray c.2.2.2.2.2.2)]) (fun c => [(Str.ofString "leftchar", .int c.1 c.2.1), (Str.ofString "leftbits", .int c.2.2.1 c.2.2.2.1)]) (fun c => IntsAre c.2.2.2.2.2.1 c.2.2.2.2.1) [] (fun pre c => InvB pre c.1 c.2.2.1 c.2.2.2.2.1) (0, _, 0, _, [], [], 0) rfl rfl rfl ?kF ?kN ?kf ?kk ?kp ?turn ?done; (case kF => k_asm); (case kN => k_asm); (case kf => exact .nil); (case kk => kst_all); (case kp => exact invB0)); (case' turn => (rintro ⟨lc, t1, lb, t2, out, us, n⟩ pre post b tb u h tk own heq hlen hb0 hb1 hoff hf hI F N; dsimp only [kstB] at F N hf hI hoff; simp only [List.cons_append, List.nil_append, List.map_cons, List.map_nil] at N hoff; have kMark := kstMark; unfold InvB at hI; obtain ⟨i1, i2, i3, i4, i5, i6⟩ := hI; rw [KBw.ints_length] at hlen; have kLen := IntsAre.length hf; have hx := hp.1; have i7 : lb = 0 ∨ lb = 2 ∨ lb = 4 := (by omega); rcases i7 with rfl | rfl | rfl)); (case' done => (rintro ⟨lc, t1, lb, t2, out, us, n⟩ u h tk heq hf hI F N;  dsimp only [kstB] at F N hf hI; have kMark := kstMark; unfold InvB at hI; obtain ⟨i1, i2, i3, i4, i5, i6⟩ := hI; rw [KBw.ints_length] at i3; have i7 : lb = 0 := (by omega); subst i7)))
  k_with "call type:bytes" => (k_here; k_dflt (refine' bytesW ?F ?N ?m ?i ?r ?z ?h ?_; (case F => k_asm); (case N => k_asm); (case m => k_mem); (case i => assumption); (case r => (rw [i6]; exact sgn_in)); (case z => (rw [KBw.ints_length] at i5; have hx := hp.1; omega)); (case h => rfl); k_whole; intro _ _ _ _ _))
  k_with "state" => first | exact invB1 hb0 hb1 i3 i6 | exact invB2 hb0 hb1 i3 i4 i6 | exact invB3 hb0 hb1 i3 i4 i6
  k_with "my subscript" => (k_here; k_dflt (refine' itemW (ks := b64s) ?k ?f ?a ?b ?_ ?s ?t; (case k => decide +kernel); (case f => decide); (case a => omega); (case b => (show _ < (64 : Int); omega)); (case s => with_unfolding_all rfl); (case t => (intro _; with_unfolding_all rfl)); k_whole; intro _ _))
  k_steps
  · exact hret _ _ _ (kept9 hg' (by assumption)) (exBytes (by rw [i6]))
end
end
section
open PySem.Calls
theorem fill4 : hd.heap_39 = hd.heap_39 ∧ Challenge.rw_pa0032_01 = Challenge.rw_pa0032_01 := by
  k_with_none
  w_top off
  k_fill
  exact ⟨rfl, rfl⟩
local macro_rules | `(tactic| walk_at "getMethod bytes") => `(tactic| (k_here; with_reducible refine method_translate ?_))
section
variable {w : World} {mean : ExcName → Option Value} {mg mb : Str → Option Value}
theorem c_b64encode (x : Array UInt8) (tk : Tok) : Says w mean mg mb 94 3 (fun _ => x.size ≤ 500000 ∧ x.size % 3 = 0) [.bytes x tk] [] (fun _ _ r => ∃ t, r = .bytes (byteArr ((encL (KBw.bInts x)).map sgn)) t) := by
  unfold Says
  intro dp un gd cn cs a ccd cl outer A₀ base h₀ L m s Q E B F X T hk hd hu hp hret
  refine wpAny_call ?_
  refine' enter (binds := [(Str.ofString "s", .bytes x tk), (Str.ofString "altchars", .none)]) ?k1 ?k2 ?k3 ?k5 ?kA ?kF ?kK ?k6 ?k7 ?k8 ?k9 ?kB ?_ ?c2 ?c3 ?c4 ?c5; (case kA => exact rfl); (case kF => exact rfl); (case kK => assumption); (case k1 => k_asm); (case k2 => k_asm); (case k3 => k_asm); (case k5 => k_asm); (case k6 => k_is); (case k7 => k_is); (case k8 => ktr_room); (case k9 => first | exact BindsTo.of_eq rfl | exact binds_K (by k_in) rfl (by k_is) rfl rfl rfl | fail "BINDS"); (case c5 => decide); (case kB => exact locs rfl); (case c2 => exact rfl); (case c3 => exact rfl); (case c4 => exact rfl); k_whole; intro g' L' h' hg' FG' F' N' B' X' T'; (try dsimp only); (try k_lift B'); (try k_fold)
  k_with "call ref" => (refine' use (c_b2a _ _) ?k1 ?k2 ?k3 ?k4 ?k5 ?kK ?kd ?ku ?kp ?_; (case k1 => k_asm); (case k2 => k_asm); (case k3 => k_asm); (case k4 => k_asm); (case k5 => k_asm); (case kK => first | exact rfl | assumption); (case kd => ktr_room); (case ku => ktr_units); (case kp => first | exact trivial | assumption); intro r9 h9 tk9 F9 N9 S9 P9; obtain ⟨t9, rfl⟩ := P9; (try dsimp only); (try k_fold))
  k_steps
  all_goals (exact hret _ _ _ (kept9 hg' (by assumption)) ⟨_, rfl⟩)
theorem c_std (x : Array UInt8) (tk : Tok) : Says w mean mg mb 109 4 (fun _ => x.size ≤ 500000 ∧ x.size % 3 = 0) [.bytes x tk] [] (fun _ _ r => ∃ t, r = .bytes (byteArr ((encL (KBw.bInts x)).map sgn)) t) := by
  unfold Says
  intro dp un gd cn cs a ccd cl outer A₀ base h₀ L m s Q E B F X T hk hd hu hp hret
  refine wpAny_call ?_
  refine' enter (binds := [(Str.ofString "s", .bytes x tk)]) ?k1 ?k2 ?k3 ?k5 ?kA ?kF ?kK ?k6 ?k7 ?k8 ?k9 ?kB ?_ ?c2 ?c3 ?c4 ?c5; (case kA => exact rfl); (case kF => exact rfl); (case kK => assumption); (case k1 => k_asm); (case k2 => k_asm); (case k3 => k_asm); (case k5 => k_asm); (case k6 => k_is); (case k7 => k_is); (case k8 => ktr_room); (case k9 => first | exact BindsTo.of_eq rfl | exact binds_K (by k_in) rfl (by k_is) rfl rfl rfl | fail "BINDS"); (case c5 => decide); (case kB => exact locs rfl); (case c2 => exact rfl); (case c3 => exact rfl); (case c4 => exact rfl); k_whole; intro g' L' h' hg' FG' F' N' B' X' T'; (try dsimp only); (try k_lift B'); (try k_fold)
  k_with "call ref" => (refine' use (c_b64encode _ _) ?k1 ?k2 ?k3 ?k4 ?k5 ?kK ?kd ?ku ?kp ?_; (case k1 => k_asm); (case k2 => k_asm); (case k3 => k_asm); (case k4 => k_asm); (case k5 => k_asm); (case kK => first | exact rfl | assumption); (case kd => ktr_room); (case ku => ktr_units); (case kp => first | exact trivial | assumption); intro r9 h9 tk9 F9 N9 S9 P9; obtain ⟨t9, rfl⟩ := P9; (try dsimp only); (try k_fold))
  k_steps
  all_goals (exact hret _ _ _ (kept9 hg' (by assumption)) ⟨_, rfl⟩)
def tenc : Array UInt8 := (((List.range 256).map (·.toUInt8)).set 43 45 |>.set 47 95).toArray
def tdec : Array UInt8 := (((List.range 256).map (·.toUInt8)).set 45 43 |>.set 95 47).toArray
theorem c_urlenc (x : Array UInt8) (tk : Tok) : Says w mean mg mb 116 4 (fun _ => x.size ≤ 500000 ∧ x.size % 3 = 0) [.bytes x tk] [] (fun _ _ r => ∃ t, r = .bytes (trans tenc (byteArr ((encL (KBw.bInts x)).map sgn))) t) := by
  unfold Says
  intro dp un gd cn cs a ccd cl outer A₀ base h₀ L m s Q E B F X T hk hd hu hp hret
  refine wpAny_call ?_
  refine' enter (binds := [(Str.ofString "s", .bytes x tk)]) ?k1 ?k2 ?k3 ?k5 ?kA ?kF ?kK ?k6 ?k7 ?k8 ?k9 ?kB ?_ ?c2 ?c3 ?c4 ?c5; (case kA => exact rfl); (case kF => exact rfl); (case kK => assumption); (case k1 => k_asm); (case k2 => k_asm); (case k3 => k_asm); (case k5 => k_asm); (case k6 => k_is); (case k7 => k_is); (case k8 => ktr_room); (case k9 => first | exact BindsTo.of_eq rfl | exact binds_K (by k_in) rfl (by k_is) rfl rfl rfl | fail "BINDS"); (case c5 => decide); (case kB => exact locs rfl); (case c2 => exact rfl); (case c3 => exact rfl); (case c4 => exact rfl); k_whole; intro g' L' h' hg' FG' F' N' B' X' T'; (try dsimp only); (try k_lift B'); (try k_fold)
  k_with "call ref" => (refine' use (c_b64encode _ _) ?k1 ?k2 ?k3 ?k4 ?k5 ?kK ?kd ?ku ?kp ?_; (case k1 => k_asm); (case k2 => k_asm); (case k3 => k_asm); (case k4 => k_asm); (case k5 => k_asm); (case kK => first | exact rfl | assumption); (case kd => ktr_room); (case ku => ktr_units); (case kp => first | exact trivial | assumption); intro r9 h9 tk9 F9 N9 S9 P9; obtain ⟨t9, rfl⟩ := P9; (try dsimp only); (try k_fold))
  k_with "call builtin:bytes.translate" => (k_here; k_dflt (refine' translate ?a ?b ?_; (case a => rfl); (case b => (rw [byteArr_size, List.length_map, PySem.sizeLine_eq]; have h1 := encL_len (KBw.bInts x); rw [KBw.ints_length] at h1; have h2 := hp.1; omega)); k_whole; intro _ _))
  k_steps
  all_goals (refine hret _ _ _ (kept9 hg' (by assumption)) (exBytes ?_); refine congrArg (fun z => trans z _) ?_; decide +kernel)
end
end
section
open PySem.Calls
theorem fill5 : hd.heap_39 = hd.heap_39 ∧ Challenge.rw_pa0032_01 = Challenge.rw_pa0032_01 := by
  k_with_none
  w_top off
  k_fill
  exact ⟨rfl, rfl⟩
local macro_rules | `(tactic| walk_at "pyIter bytes") => `(tactic| k_extra "my iter bytes")
local macro_rules | `(tactic| walk_at "binaryOp BitAnd int int") => `(tactic| (k_here; k_dflt (first | (refine andW (bitAnd_m2 _) ?_; k_whole; intro _ _) | (refine andW (bitAnd_m4 _) ?_; k_whole; intro _ _))))
local macro_rules | `(tactic| walk_at "binaryOp BitOr int int") => `(tactic| (k_here; k_dflt (refine' orW (or_low _ ?a ?b) ?_; (case a => omega); (case b => omega); k_whole; intro _ _)))
local macro_rules | `(tactic| walk_at "binaryOp LShift int int") => `(tactic| (k_here; k_dflt (first | (refine' shlW 2 rfl (by decide) ?a ?b ?_; (case a => omega); (case b => omega); k_whole; intro _ _) | (refine' shlW 4 rfl (by decide) ?a ?b ?_; (case a => omega); (case b => omega); k_whole; intro _ _) | (refine' shlW 6 rfl (by decide) ?a ?b ?_; (case a => omega); (case b => omega); k_whole; intro _ _))))
local macro_rules | `(tactic| walk_at "binaryOp RShift int int") => `(tactic| (k_here; k_dflt (first | (refine shrW 2 rfl ?_; k_whole; intro _ _) | (refine shrW 4 rfl ?_; k_whole; intro _ _))))
/-- what a2b_base64 takes -/
def Takes (sm : Bool) (l : List Int) : Prop := (sm = true → ∀ c ∈ l, b64v c < 64) ∧ (figs l).length % 4 = 0
def InvA (sm : Bool) (pre : List Int) (qp lc pd ii : Int) (out : List Int) : Prop := pd = 0 ∧ 0 ≤ ii ∧ ii ≤ (pre.length : Int) ∧ (sm = true → ∀ c ∈ pre, b64v c < 64) ∧ InvD pre qp lc out
theorem invA0 (sm : Bool) : InvA sm [] 0 0 0 0 [] := ⟨rfl, Int.le_refl 0, Int.le_refl 0, by simp, invD0⟩
theorem all_snoc {sm : Bool} {pre : List Int} {b : Int} (h : sm = true → ∀ c' ∈ pre, b64v c' < 64) (hb : sm = true → b64v b < 64) : sm = true → ∀ c' ∈ pre ++ [b], b64v c' < 64 := by
  intro hs c' hc
  rcases List.mem_append.mp hc with h1 | h1
  · exact h hs c' h1
  · rw [List.mem_singleton.mp h1]; exact hb hs
theorem invA_next {sm : Bool} {pre : List Int} {b qp lc ii : Int} {out : List Int} (h0 : 0 ≤ ii) (h1 : ii ≤ (pre.length : Int)) (h2 : sm = true → ∀ c' ∈ pre, b64v c' < 64) (hb : sm = true → b64v b < 64) (h : InvD (pre ++ [b]) qp lc out) : InvA sm (pre ++ [b]) qp lc 0 (ii + 1) out :=
  ⟨rfl, by omega, by rw [List.length_append, List.length_singleton]; omega, all_snoc h2 hb, h⟩
theorem raised_sub {base G h : Heap} {l : List Env} {e t : Addr} {cls : Value} {vs : List Value} {news news' : List (Addr × Obj)} (R : RaisedS base G l e cls t vs news h) (sub : ∀ p ∈ news', p ∈ news) : RaisedS base G l e cls t vs news' h := by
  obtain ⟨⟨B, a, b, c, d⟩, e⟩ := R
  exact ⟨⟨B, a, b, fun q hq => c q (sub q hq), d⟩, e⟩
section
variable {w : World} {mean : ExcName → Option Value} {mg mb : Str → Option Value}
theorem r_a2b {A₀ : Around} {base h₀ : Heap} {outer : List Env} {L a : Addr} {cn : Str} {cs : Scope} {ccd : Value} {cl : List (Str × Addr)} {m : Str → Option Value} {news : List (Addr × Obj)} {s : Shared} {Q E : Value → Shared → Prop} {dp un : Nat} {gd : Option (List Code)} (sm : Bool) (x : Array UInt8) (tkx : Tok) (hz : x.size ≤ 500000) (h61 : ∀ c ∈ KBw.bInts x, c ≠ 61)
    (B : Below A₀ base outer h₀) (F : Fr h₀ L s.heap m) (X : (hd.heap_39 w.params).In h₀) (N : News h₀ L s.heap news) (T : Top hd.view_39 LO mean mg mb h₀) (hk : cs.kind = .function)
    (hdp : dp + 2 < recursionLimit) (hun : un + 8 * 2 < cLine)
    (ok : ∀ t h' tk', Takes sm (KBw.bInts x) → Fr h₀ L h' m → News h₀ L h' news → Q (.bytes (byteArr (decL (figs (KBw.bInts x)))) t) { s with heap := h', toks := tk' })
    (exc : ∀ g₂ e t vs h' tk', ¬ Takes sm (KBw.bInts x) → Fr h₀ L g₂ m → RaisedS base g₂ (envX cn cs L a ccd cl :: outer) e (.ref 39) t vs news h' → g₂.UpToSlots h' → E (.ref e) { s with heap := h', toks := tk' }) :
    wpAny (model PR w) (ktrTop dp un gd cn cs L a ccd cl outer) (call (.ref 78) [.bytes x tkx] [(Str.ofString "strict_mode", .bool sm)]) Q E s := by
  have D9 : KtsDicts [] h₀ := ktsDicts_nil
  refine wpAny_call ?_
  (refine' W.code_def (f := 78) (binds := [(Str.ofString "data", .bytes x tkx), (Str.ofString "strict_mode", .bool sm)]) ?k1 ?k2 ?k3 ?k4 ?k5 ?kA ?kF ?kK ?k6 ?k7 ?k8 ?k9 ?kB ?_ ?c2 ?c3 ?c4 ?c5; (case kA => exact rfl); (case kF => exact rfl); (case kK => first | exact rfl | assumption); (case k1 => k_asm); (case k2 => k_asm); (case k3 => k_asm); (case k4 => k_asm); (case k5 => k_asm); (case k6 => k_is); (case k7 => k_is); (case k8 => ktr_room); (case k9 => first | exact binds_K (by k_in) rfl (by k_is) rfl rfl rfl | exact BindsTo.of_eq rfl | fail "BINDS"); (case c5 => decide); (case kB => exact locs rfl); (case c2 => exact rfl); (case c3 => exact rfl); (case c4 => exact rfl); k_whole; intro g' L' h' FG' F' N' B' X' T'; (try dsimp only); (try k_lift B'); (try k_fold))
  k_with "call ref" => (refine' use (c_asciib _ _) ?k1 ?k2 ?k3 ?k4 ?k5 ?kK ?kd ?ku ?kp ?_; (case k1 => k_asm); (case k2 => k_asm); (case k3 => k_asm); (case k4 => k_asm); (case k5 => k_asm); (case kK => first | exact rfl | assumption); (case kd => ktr_room); (case ku => ktr_units); (case kp => first | exact trivial | assumption); intro r9 h9 tk9 F9 N9 S9 P9; subst P9; (try dsimp only); (try k_fold))
  k_with "call ref" => (refine' use (c_truth _) ?k1 ?k2 ?k3 ?k4 ?k5 ?kK ?kd ?ku ?kp ?_; (case k1 => k_asm); (case k2 => k_asm); (case k3 => k_asm); (case k4 => k_asm); (case k5 => k_asm); (case kK => first | exact rfl | assumption); (case kd => ktr_room); (case ku => ktr_units); (case kp => first | exact trivial | assumption); intro r9 h9 tk9 F9 N9 S9 P9; subst P9; (try dsimp only); (try k_fold))
  k_with "call ref" => (refine' use (c_b64_value _ _) ?k1 ?k2 ?k3 ?k4 ?k5 ?kK ?kd ?ku ?kp ?_; (case k1 => k_asm); (case k2 => k_asm); (case k3 => k_asm); (case k4 => k_asm); (case k5 => k_asm); (case kK => first | exact rfl | assumption); (case kd => ktr_room); (case ku => ktr_units); (case kp => first | exact trivial | assumption); intro r9 h9 tk9 F9 N9 S9 P9; obtain ⟨t9, rfl⟩ := P9; (try dsimp only); (try k_fold))
  k_with "my iter bytes" => (k_here; k_dflt (refine' KStb.kst_bytes (σ := Int × Tok × Int × Tok × Int × Tok × Int × Tok × List Int × List Value × Nat) (fun c => (_, W.listOf c.2.2.2.2.2.2.2.2.2.1.toArray c.2.2.2.2.2.2.2.2.2.2) :: news) (fun c => [(Str.ofString "quad_pos", .int c.1 c.2.1), (Str.ofString "leftchar", .int c.2.2.1 c.2.2.2.1), (Str.ofString "pads", .int c.2.2.2.2.1 c.2.2.2.2.2.1), (Str.ofString "i", .int c.2.2.2.2.2.2.1 c.2.2.2.2.2.2.2.1)]) (fun c => IntsAre c.2.2.2.2.2.2.2.2.2.1 c.2.2.2.2.2.2.2.2.1) [] (fun pre c => InvA sm pre c.1 c.2.2.1 c.2.2.2.2.1 c.2.2.2.2.2.2.1 c.2.2.2.2.2.2.2.2.1) (0, _, 0, _, 0, _, 0, _, [], [], 0) rfl rfl rfl ?kF ?kN ?kf ?kk ?kp ?turn ?done; (case kF => k_asm); (case kN => k_asm); (case kf => exact .nil); (case kk => kst_all); (case kp => exact invA0 sm)); (case' turn => (rintro ⟨qp, t1, lc, t2, pd, t3, ii, t4, out, us, n⟩ pre post b tb u h tk own heq hlen hb0 hb1 hoff hf hI F N; dsimp only [kstB] at F N hf hI hoff; simp only [List.cons_append, List.nil_append, List.map_cons, List.map_nil] at N hoff; have kMark := kstMark; unfold InvA at hI; obtain ⟨i1, i2, i3, i9, i4⟩ := hI; subst i1; rw [KBw.ints_length] at hlen; have kLen := IntsAre.length hf; have b1 := InvD.bounds i4; have hv := b64v_in b; have hmem : b ∈ KBw.bInts x := (by rw [heq]; simp); have hne : b ≠ 61 := h61 b hmem)); (case' done => (rintro ⟨qp, t1, lc, t2, pd, t3, ii, t4, out, us, n⟩ u h tk heq hf hI F N;  dsimp only [kstB] at F N hf hI; have kMark := kstMark; unfold InvA at hI; obtain ⟨i1, i2, i3, i9, i4⟩ := hI; subst i1; have kLen := IntsAre.length hf; have b1 := InvD.bounds i4; have q1 := InvD.qp i4; rw [KBw.ints_length] at b1)))
  k_with "state" => first | exact invA_next i2 i3 i9 (by intro hs; simp_all) (invD_skip i4 (by omega)) | exact invA_next i2 i3 i9 (fun _ => by omega) (invD_0 i4 (by omega) (by omega)) | exact invA_next i2 i3 i9 (fun _ => by omega) (invD_1 i4 (by omega) (by omega)) | exact invA_next i2 i3 i9 (fun _ => by omega) (invD_2 i4 (by omega) (by omega)) | exact invA_next i2 i3 i9 (fun _ => by omega) (invD_3 i4 (by omega) (by omega) (by omega) (by omega))
  k_with "call type:bytes" => (k_here; k_dflt (refine' bytesW ?yF ?yN ?ym ?yi ?yr ?yz ?yh ?_; (case yF => k_asm); (case yN => k_asm); (case ym => k_mem); (case yi => assumption); (case yr => (rw [InvD.out i4]; exact dec_in _ (figs_in _))); (case yz => omega); (case yh => rfl); k_whole; intro _ _ _ _ _))
  k_steps
  · rename RaisedS _ _ _ _ _ _ _ _ _ => S9; rename Heap.UpToSlots _ _ => U9
    exact exc _ _ _ _ _ _ (fun h => by have := h.2; omega) FG' (raised_sub S9 fun p hp => List.mem_cons_of_mem _ hp) U9
  · rename RaisedS _ _ _ _ _ _ _ _ _ => S9; rename Heap.UpToSlots _ _ => U9
    exact exc _ _ _ _ _ _ (fun h => by have := h.2; omega) FG' (raised_sub S9 fun p hp => List.mem_cons_of_mem _ hp) U9
  · rename News h₀ L _ _ => kN9; rename Fr h₀ L _ _ => kF9; rw [InvD.out i4]; exact ok _ _ _ ⟨i9, by omega⟩ kF9 (fun p hp => kN9 p (List.mem_cons_of_mem _ hp))
  · rename RaisedS _ _ _ _ _ _ _ _ _ => S9; rename Heap.UpToSlots _ _ => U9
    exact exc _ _ _ _ _ _ (fun h => by have := h.1 (by assumption) b hmem; omega) FG' (raised_sub S9 fun p hp => List.mem_cons_of_mem _ (List.mem_append_left _ hp)) U9
end
end
section
open PySem.Calls
theorem fill6 : hd.heap_39 = hd.heap_39 ∧ Challenge.rw_pa0032_01 = Challenge.rw_pa0032_01 := by
  k_with_none
  w_top off
  k_fill
  exact ⟨rfl, rfl⟩
local macro_rules | `(tactic| walk_at "getMethod bytes") => `(tactic| (k_here; with_reducible refine method_translate ?_))
/-- a text's codes -/
def codes (x : Str) : List Int := x.cps.toList.map (fun (c : Nat) => (c : Int))
def Ascii (x : Str) : Prop := (∀ c ∈ x.cps.toList, c < 128) ∧ x.length ≤ 500000
theorem bInts_text {x : Str} (h : Ascii x) : KBw.bInts (x.cps.map (·.toUInt8)) = codes x := by
  unfold KBw.bInts codes
  rw [Array.toList_map, List.map_map]
  refine List.map_congr_left fun c hc => ?_
  have := h.1 c hc
  show (((UInt8.ofNat c).toNat : Nat) : Int) = (c : Int)
  rw [UInt8.toNat_ofNat']
  omega
section
variable {w : World} {mean : ExcName → Option Value} {mg mb : Str → Option Value}
def Loose (l : List Int) : Prop := (∀ c ∈ l, c ≠ 61) ∧ (figs l).length % 4 = 0
def Strict (l : List Int) : Prop := (∀ c ∈ l, c ≠ 61 ∧ b64v c < 64) ∧ (figs l).length % 4 = 0
theorem takes_loose {l : List Int} (h : Loose l) : Takes false l := ⟨fun q => (nomatch q), h.2⟩
theorem takes_strict {l : List Int} (h : Strict l) : Takes true l := ⟨fun _ c hc => (h.1 c hc).2, h.2⟩
theorem size_text (x : Str) : (x.cps.map (·.toUInt8)).size = x.length := by rw [Array.size_map]; rfl
theorem c_dec_loose (x : Str) (tk : Tok) : Says w mean mg mb 102 3 (fun _ => Ascii x ∧ Loose (codes x)) [.str x tk] [] (fun _ _ r => ∃ t, r = .bytes (byteArr (decL (figs (codes x)))) t) := by
  unfold Says
  intro dp un gd cn cs a ccd cl outer A₀ base h₀ L m s Q E B F X T hk hd hu hp hret
  refine wpAny_call ?_
  refine' enter (binds := [(Str.ofString "s", .str x tk), (Str.ofString "altchars", .none), (Str.ofString "validate", .bool false)]) ?k1 ?k2 ?k3 ?k5 ?kA ?kF ?kK ?k6 ?k7 ?k8 ?k9 ?kB ?_ ?c2 ?c3 ?c4 ?c5; (case kA => exact rfl); (case kF => exact rfl); (case kK => assumption); (case k1 => k_asm); (case k2 => k_asm); (case k3 => k_asm); (case k5 => k_asm); (case k6 => k_is); (case k7 => k_is); (case k8 => ktr_room); (case k9 => first | exact BindsTo.of_eq rfl | exact binds_K (by k_in) rfl (by k_is) rfl rfl rfl | fail "BINDS"); (case c5 => decide); (case kB => exact locs rfl); (case c2 => exact rfl); (case c3 => exact rfl); (case c4 => exact rfl); k_whole; intro g' L' h' hg' FG' F' N' B' X' T'; (try dsimp only); (try k_lift B'); (try k_fold)
  have e := bInts_text hp.1
  have z := size_text x
  have p1 : (∀ c ∈ x.cps.toList, c < 128) ∧ x.length ≤ 500000 := hp.1
  have hz9 : (x.cps.map (·.toUInt8)).size ≤ 500000 := by rw [z]; exact hp.1.2
  have h619 : ∀ c ∈ KBw.bInts (x.cps.map (·.toUInt8)), c ≠ 61 := by rw [e]; exact hp.2.1
  have hT9 : Takes false (KBw.bInts (x.cps.map (·.toUInt8))) := by rw [e]; exact takes_loose hp.2
  k_with "call ref" => (refine' use (c_bfdd_str _ _) ?k1 ?k2 ?k3 ?k4 ?k5 ?kK ?kd ?ku ?kp ?_; (case k1 => k_asm); (case k2 => k_asm); (case k3 => k_asm); (case k4 => k_asm); (case k5 => k_asm); (case kK => first | exact rfl | assumption); (case kd => ktr_room); (case ku => ktr_units); (case kp => first | exact trivial | assumption); intro r9 h9 tk9 F9 N9 S9 P9; obtain ⟨t9, rfl⟩ := P9; (try dsimp only); (try k_fold))
  k_with "call ref" => (refine' r_a2b _ _ _ hz9 h619 ?k1 ?k2 ?k3 ?k4 ?k5 ?kK ?kd ?ku ?gok ?gexc; (case k1 => k_asm); (case k2 => k_asm); (case k3 => k_asm); (case k4 => k_asm); (case k5 => k_asm); (case kK => first | exact rfl | assumption); (case kd => ktr_room); (case ku => ktr_units); (case gexc => (intro g2 e9 t9 vs9 h9 tk9 no9; exact absurd hT9 no9)); (case' gok => (intro t9 h9 tk9 T9 F9 N9; (try dsimp only); (try k_fold))))
  k_steps
  all_goals (exact hret _ _ _ (kept9 hg' (by assumption)) (exBytes (by rw [e])))
theorem c_dec_strict (x : Str) (tk : Tok) : Says w mean mg mb 102 3 (fun _ => Ascii x ∧ Strict (codes x)) [.str x tk] [(Str.ofString "validate", .bool true)] (fun _ _ r => ∃ t, r = .bytes (byteArr (decL (figs (codes x)))) t) := by
  unfold Says
  intro dp un gd cn cs a ccd cl outer A₀ base h₀ L m s Q E B F X T hk hd hu hp hret
  refine wpAny_call ?_
  refine' enter (binds := [(Str.ofString "s", .str x tk), (Str.ofString "altchars", .none), (Str.ofString "validate", .bool true)]) ?k1 ?k2 ?k3 ?k5 ?kA ?kF ?kK ?k6 ?k7 ?k8 ?k9 ?kB ?_ ?c2 ?c3 ?c4 ?c5; (case kA => exact rfl); (case kF => exact rfl); (case kK => assumption); (case k1 => k_asm); (case k2 => k_asm); (case k3 => k_asm); (case k5 => k_asm); (case k6 => k_is); (case k7 => k_is); (case k8 => ktr_room); (case k9 => first | exact BindsTo.of_eq rfl | exact binds_K (by k_in) rfl (by k_is) rfl rfl rfl | fail "BINDS"); (case c5 => decide); (case kB => exact locs rfl); (case c2 => exact rfl); (case c3 => exact rfl); (case c4 => exact rfl); k_whole; intro g' L' h' hg' FG' F' N' B' X' T'; (try dsimp only); (try k_lift B'); (try k_fold)
  have e := bInts_text hp.1
  have z := size_text x
  have p1 : (∀ c ∈ x.cps.toList, c < 128) ∧ x.length ≤ 500000 := hp.1
  have hz9 : (x.cps.map (·.toUInt8)).size ≤ 500000 := by rw [z]; exact hp.1.2
  have h619 : ∀ c ∈ KBw.bInts (x.cps.map (·.toUInt8)), c ≠ 61 := by rw [e]; exact fun c hc => (hp.2.1 c hc).1
  have hT9 : Takes true (KBw.bInts (x.cps.map (·.toUInt8))) := by rw [e]; exact takes_strict hp.2
  k_with "call ref" => (refine' use (c_bfdd_str _ _) ?k1 ?k2 ?k3 ?k4 ?k5 ?kK ?kd ?ku ?kp ?_; (case k1 => k_asm); (case k2 => k_asm); (case k3 => k_asm); (case k4 => k_asm); (case k5 => k_asm); (case kK => first | exact rfl | assumption); (case kd => ktr_room); (case ku => ktr_units); (case kp => first | exact trivial | assumption); intro r9 h9 tk9 F9 N9 S9 P9; obtain ⟨t9, rfl⟩ := P9; (try dsimp only); (try k_fold))
  k_with "call ref" => (refine' r_a2b _ _ _ hz9 h619 ?k1 ?k2 ?k3 ?k4 ?k5 ?kK ?kd ?ku ?gok ?gexc; (case k1 => k_asm); (case k2 => k_asm); (case k3 => k_asm); (case k4 => k_asm); (case k5 => k_asm); (case kK => first | exact rfl | assumption); (case kd => ktr_room); (case ku => ktr_units); (case gexc => (intro g2 e9 t9 vs9 h9 tk9 no9; exact absurd hT9 no9)); (case' gok => (intro t9 h9 tk9 T9 F9 N9; (try dsimp only); (try k_fold))))
  k_steps
  all_goals (exact hret _ _ _ (kept9 hg' (by assumption)) (exBytes (by rw [e])))
theorem c_dec_bytes (x : Array UInt8) (tk : Tok) : Says w mean mg mb 102 3 (fun _ => x.size ≤ 500000 ∧ Loose (KBw.bInts x)) [.bytes x tk] [] (fun _ _ r => ∃ t, r = .bytes (byteArr (decL (figs (KBw.bInts x)))) t) := by
  unfold Says
  intro dp un gd cn cs a ccd cl outer A₀ base h₀ L m s Q E B F X T hk hd hu hp hret
  refine wpAny_call ?_
  refine' enter (binds := [(Str.ofString "s", .bytes x tk), (Str.ofString "altchars", .none), (Str.ofString "validate", .bool false)]) ?k1 ?k2 ?k3 ?k5 ?kA ?kF ?kK ?k6 ?k7 ?k8 ?k9 ?kB ?_ ?c2 ?c3 ?c4 ?c5; (case kA => exact rfl); (case kF => exact rfl); (case kK => assumption); (case k1 => k_asm); (case k2 => k_asm); (case k3 => k_asm); (case k5 => k_asm); (case k6 => k_is); (case k7 => k_is); (case k8 => ktr_room); (case k9 => first | exact BindsTo.of_eq rfl | exact binds_K (by k_in) rfl (by k_is) rfl rfl rfl | fail "BINDS"); (case c5 => decide); (case kB => exact locs rfl); (case c2 => exact rfl); (case c3 => exact rfl); (case c4 => exact rfl); k_whole; intro g' L' h' hg' FG' F' N' B' X' T'; (try dsimp only); (try k_lift B'); (try k_fold)
  have hz9 : x.size ≤ 500000 := hp.1
  have h619 : ∀ c ∈ KBw.bInts x, c ≠ 61 := hp.2.1
  have hT9 : Takes false (KBw.bInts x) := takes_loose hp.2
  k_with "call ref" => (refine' use (c_bfdd_bytes _ _) ?k1 ?k2 ?k3 ?k4 ?k5 ?kK ?kd ?ku ?kp ?_; (case k1 => k_asm); (case k2 => k_asm); (case k3 => k_asm); (case k4 => k_asm); (case k5 => k_asm); (case kK => first | exact rfl | assumption); (case kd => ktr_room); (case ku => ktr_units); (case kp => first | exact trivial | assumption); intro r9 h9 tk9 F9 N9 S9 P9; subst P9; (try dsimp only); (try k_fold))
  k_with "call ref" => (refine' r_a2b _ _ _ hz9 h619 ?k1 ?k2 ?k3 ?k4 ?k5 ?kK ?kd ?ku ?gok ?gexc; (case k1 => k_asm); (case k2 => k_asm); (case k3 => k_asm); (case k4 => k_asm); (case k5 => k_asm); (case kK => first | exact rfl | assumption); (case kd => ktr_room); (case ku => ktr_units); (case gexc => (intro g2 e9 t9 vs9 h9 tk9 no9; exact absurd hT9 no9)); (case' gok => (intro t9 h9 tk9 T9 F9 N9; (try dsimp only); (try k_fold))))
  k_steps
  all_goals (exact hret _ _ _ (kept9 hg' (by assumption)) ⟨_, rfl⟩)
theorem c_urldec (x : Str) (tk : Tok) : Says w mean mg mb 123 4 (fun _ => Ascii x ∧ Loose (KBw.bInts (trans tdec (x.cps.map (·.toUInt8))))) [.str x tk] [] (fun _ _ r => ∃ t, r = .bytes (byteArr (decL (figs (KBw.bInts (trans tdec (x.cps.map (·.toUInt8))))))) t) := by
  unfold Says
  intro dp un gd cn cs a ccd cl outer A₀ base h₀ L m s Q E B F X T hk hd hu hp hret
  refine wpAny_call ?_
  refine' enter (binds := [(Str.ofString "s", .str x tk)]) ?k1 ?k2 ?k3 ?k5 ?kA ?kF ?kK ?k6 ?k7 ?k8 ?k9 ?kB ?_ ?c2 ?c3 ?c4 ?c5; (case kA => exact rfl); (case kF => exact rfl); (case kK => assumption); (case k1 => k_asm); (case k2 => k_asm); (case k3 => k_asm); (case k5 => k_asm); (case k6 => k_is); (case k7 => k_is); (case k8 => ktr_room); (case k9 => first | exact BindsTo.of_eq rfl | exact binds_K (by k_in) rfl (by k_is) rfl rfl rfl | fail "BINDS"); (case c5 => decide); (case kB => exact locs rfl); (case c2 => exact rfl); (case c3 => exact rfl); (case c4 => exact rfl); k_whole; intro g' L' h' hg' FG' F' N' B' X' T'; (try dsimp only); (try k_lift B'); (try k_fold)
  have p1 : (∀ c ∈ x.cps.toList, c < 128) ∧ x.length ≤ 500000 := hp.1
  have z := size_text x
  have p2 : (trans tdec (x.cps.map (·.toUInt8))).size ≤ 500000 ∧ Loose (KBw.bInts (trans tdec (x.cps.map (·.toUInt8)))) := ⟨by unfold trans; rw [Array.size_map, z]; exact hp.1.2, hp.2⟩
  k_with "call ref" => (refine' use (c_bfdd_str _ _) ?k1 ?k2 ?k3 ?k4 ?k5 ?kK ?kd ?ku ?kp ?_; (case k1 => k_asm); (case k2 => k_asm); (case k3 => k_asm); (case k4 => k_asm); (case k5 => k_asm); (case kK => first | exact rfl | assumption); (case kd => ktr_room); (case ku => ktr_units); (case kp => first | exact trivial | assumption); intro r9 h9 tk9 F9 N9 S9 P9; obtain ⟨t9, rfl⟩ := P9; (try dsimp only); (try k_fold))
  k_with "call ref" => (refine' use (c_dec_bytes _ _) ?k1 ?k2 ?k3 ?k4 ?k5 ?kK ?kd ?ku ?kp ?_; (case k1 => k_asm); (case k2 => k_asm); (case k3 => k_asm); (case k4 => k_asm); (case k5 => k_asm); (case kK => first | exact rfl | assumption); (case kd => ktr_room); (case ku => ktr_units); (case kp => first | exact trivial | assumption); intro r9 h9 tk9 F9 N9 S9 P9; obtain ⟨t9, rfl⟩ := P9; (try dsimp only); (try k_fold))
  k_with "call builtin:bytes.translate" => (k_here; k_dflt (refine' (show _ → _ → _ → wpAny _ _ _ _ _ _ from translate (tb := tdec)) ?a ?b ?_; (case a => decide +kernel); (case b => (rw [z, PySem.sizeLine_eq]; have h2 := hp.1.2; omega)); k_whole; intro _ _))
  k_steps
  all_goals (exact hret _ _ _ (kept9 hg' (by assumption)) ⟨_, rfl⟩)
theorem c_strict_ok (x : Str) (tk : Tok) : Says w mean mg mb 166 5 (fun _ => Ascii x ∧ Strict (codes x)) [.str x tk] [] (fun _ _ r => ∃ t, r = .bytes (byteArr (decL (figs (codes x)))) t) := by
  unfold Says
  intro dp un gd cn cs a ccd cl outer A₀ base h₀ L m s Q E B F X T hk hd hu hp hret
  refine wpAny_call ?_
  refine' enter (binds := [(Str.ofString "text", .str x tk)]) ?k1 ?k2 ?k3 ?k5 ?kA ?kF ?kK ?k6 ?k7 ?k8 ?k9 ?kB ?_ ?c2 ?c3 ?c4 ?c5; (case kA => exact rfl); (case kF => exact rfl); (case kK => assumption); (case k1 => k_asm); (case k2 => k_asm); (case k3 => k_asm); (case k5 => k_asm); (case k6 => k_is); (case k7 => k_is); (case k8 => ktr_room); (case k9 => first | exact BindsTo.of_eq rfl | exact binds_K (by k_in) rfl (by k_is) rfl rfl rfl | fail "BINDS"); (case c5 => decide); (case kB => exact locs rfl); (case c2 => exact rfl); (case c3 => exact rfl); (case c4 => exact rfl); k_whole; intro g' L' h' hg' FG' F' N' B' X' T'; (try dsimp only); (try k_lift B'); (try k_fold)
  k_with "call ref" => (refine' use (c_dec_strict _ _) ?k1 ?k2 ?k3 ?k4 ?k5 ?kK ?kd ?ku ?kp ?_; (case k1 => k_asm); (case k2 => k_asm); (case k3 => k_asm); (case k4 => k_asm); (case k5 => k_asm); (case kK => first | exact rfl | assumption); (case kd => ktr_room); (case ku => ktr_units); (case kp => first | exact trivial | assumption); intro r9 h9 tk9 F9 N9 S9 P9; obtain ⟨t9, rfl⟩ := P9; (try dsimp only); (try k_fold))
  k_steps
  all_goals (exact hret _ _ _ (kept9 hg' (by assumption)) ⟨_, rfl⟩)
theorem c_loose_ok (x : Str) (tk : Tok) : Says w mean mg mb 173 5 (fun _ => Ascii x ∧ Loose (codes x)) [.str x tk] [] (fun _ _ r => ∃ t, r = .bytes (byteArr (decL (figs (codes x)))) t) := by
  unfold Says
  intro dp un gd cn cs a ccd cl outer A₀ base h₀ L m s Q E B F X T hk hd hu hp hret
  refine wpAny_call ?_
  refine' enter (binds := [(Str.ofString "text", .str x tk)]) ?k1 ?k2 ?k3 ?k5 ?kA ?kF ?kK ?k6 ?k7 ?k8 ?k9 ?kB ?_ ?c2 ?c3 ?c4 ?c5; (case kA => exact rfl); (case kF => exact rfl); (case kK => assumption); (case k1 => k_asm); (case k2 => k_asm); (case k3 => k_asm); (case k5 => k_asm); (case k6 => k_is); (case k7 => k_is); (case k8 => ktr_room); (case k9 => first | exact BindsTo.of_eq rfl | exact binds_K (by k_in) rfl (by k_is) rfl rfl rfl | fail "BINDS"); (case c5 => decide); (case kB => exact locs rfl); (case c2 => exact rfl); (case c3 => exact rfl); (case c4 => exact rfl); k_whole; intro g' L' h' hg' FG' F' N' B' X' T'; (try dsimp only); (try k_lift B'); (try k_fold)
  k_with "call ref" => (refine' use (c_dec_loose _ _) ?k1 ?k2 ?k3 ?k4 ?k5 ?kK ?kd ?ku ?kp ?_; (case k1 => k_asm); (case k2 => k_asm); (case k3 => k_asm); (case k4 => k_asm); (case k5 => k_asm); (case kK => first | exact rfl | assumption); (case kd => ktr_room); (case ku => ktr_units); (case kp => first | exact trivial | assumption); intro r9 h9 tk9 F9 N9 S9 P9; obtain ⟨t9, rfl⟩ := P9; (try dsimp only); (try k_fold))
  k_steps
  all_goals (exact hret _ _ _ (kept9 hg' (by assumption)) ⟨_, rfl⟩)
end
end
section
open PySem.Calls
theorem fill7 : hd.heap_39 = hd.heap_39 ∧ Challenge.rw_pa0032_01 = Challenge.rw_pa0032_01 := by
  k_with_none
  w_top off
  k_fill
  exact ⟨rfl, rfl⟩
section
variable {w : World} {mean : ExcName → Option Value} {mg mb : Str → Option Value}
theorem r_strict {A A₀ : Around} {base h₀ g₀ : Heap} {outer : List Env} {L a : Addr} {cn : Str} {nms : List (Str × NameKind)} {mo : List (Str × Const)} {ccd : Value} {m : Str → Option Value} {news : List (Addr × Obj)} {s : Shared} {Q E : Value → Shared → Prop} {dp un : Nat} {gd : Option (List Code)} (x : Str) (tkx : Tok) (hx : Ascii x) (h61 : ∀ c ∈ codes x, c ≠ 61) (hbad : ∃ c ∈ codes x, 64 ≤ b64v c)
    (B : Below A₀ base outer h₀) (F : Fr h₀ L s.heap m) (X : (hd.heap_39 w.params).In h₀) (N : News h₀ L s.heap news) (T : Top hd.view_39 LO mean mg mb h₀) (XB : (hd.heap_39 w.params).In base) (TB : Top hd.view_39 LO mean mg mb base) (D : KtsDicts (outer.filterMap (·.frame)) h₀) (T0 : KtsTurn (outer.filterMap (·.frame)) g₀ h₀)
    (hdp : dp + 5 < recursionLimit) (hun : un + 8 * 5 < cLine)
    (ret : ∀ t h' tk' h₀', KtsTurn (outer.filterMap (·.frame)) g₀ h₀' → Fr h₀' L h' m → News h₀' L h' news → Below A₀ base outer h₀' → (hd.heap_39 w.params).In h₀' → Top hd.view_39 LO mean mg mb h₀' → KtsDicts (outer.filterMap (·.frame)) h₀' → Q (.str (Str.ofString "refused") t) { s with heap := h', toks := tk' }) :
    wpAny (model PR w) (ktrTop dp un gd cn { kind := .function, names := nms, isGenerator := false, isCoroutine := false, more := mo } L a ccd [] outer) (call (.ref 166) [.str x tkx]) Q E s := by
  have e := bInts_text hx
  have z := size_text x
  have hz9 : (x.cps.map (·.toUInt8)).size ≤ 500000 := by rw [z]; exact hx.2
  have h619 : ∀ c ∈ KBw.bInts (x.cps.map (·.toUInt8)), c ≠ 61 := by rw [e]; exact h61
  have hT9 : ¬ Takes true (KBw.bInts (x.cps.map (·.toUInt8))) := by
    rw [e]; intro h; obtain ⟨c, hc, hb⟩ := hbad; have := h.1 rfl c hc; omega
  have p1 : (∀ c ∈ x.cps.toList, c < 128) ∧ x.length ≤ 500000 := hx
  k_with "call ref" => (k_dflt (show wpAny _ _ (call (.ref 102) [.str x _] [(Str.ofString "validate", .bool true)]) _ _ _; refine wpAny_call ?_; refine' W.code_def (f := 102) (binds := [(Str.ofString "s", .str x tkx), (Str.ofString "altchars", .none), (Str.ofString "validate", .bool true)]) ?k1 ?k2 ?k3 ?k4 ?k5 ?kA ?kF ?kK ?k6 ?k7 ?k8 ?k9 ?kB ?_ ?c2 ?c3 ?c4 ?c5; (case kA => exact rfl); (case kF => exact rfl); (case kK => first | exact rfl | assumption); (case k1 => k_asm); (case k2 => k_asm); (case k3 => k_asm); (case k4 => k_asm); (case k5 => k_asm); (case k6 => k_is); (case k7 => k_is); (case k8 => ktr_room); (case k9 => first | exact binds_K (by k_in) rfl (by k_is) rfl rfl rfl | exact BindsTo.of_eq rfl | fail "BINDS"); (case c5 => decide); (case kB => exact locs rfl); (case c2 => exact rfl); (case c3 => exact rfl); (case c4 => exact rfl); k_whole; intro g' L' h' FG' F' N' B' X' T'; (try dsimp only); (try k_lift B'); (try k_fold)))
  k_with "call ref" => (refine' use (c_bfdd_str _ _) ?k1 ?k2 ?k3 ?k4 ?k5 ?kK ?kd ?ku ?kp ?_; (case k1 => k_asm); (case k2 => k_asm); (case k3 => k_asm); (case k4 => k_asm); (case k5 => k_asm); (case kK => first | exact rfl | assumption); (case kd => ktr_room); (case ku => ktr_units); (case kp => first | exact trivial | assumption); intro r9 h9 tk9 F9 N9 S9 P9; obtain ⟨t9, rfl⟩ := P9; (try dsimp only); (try k_fold))
  k_with "call ref" => (refine' r_a2b _ _ _ hz9 h619 ?k1 ?k2 ?k3 ?k4 ?k5 ?kK ?kd ?ku ?gok ?gexc; (case k1 => k_asm); (case k2 => k_asm); (case k3 => k_asm); (case k4 => k_asm); (case k5 => k_asm); (case kK => first | exact rfl | assumption); (case kd => ktr_room); (case ku => ktr_units); (case gok => (intro t9 h9 tk9 T9; exact absurd T9 hT9)); (case' gexc => (intro g2 e9 t9 vs9 h9 tk9 no9 F9 S9 U9; have R9 := S9.toK; (try dsimp only at S9 R9 U9 ⊢))))
  refine wpAny_call ?_
  (refine' code_defS (binds := [(Str.ofString "text", .str x tkx)]) ?k1 ?k2 ?k3 ?k4 ?k5 ?XB ?TB ?D ?T0 ?kA ?k6 ?k7 ?k8 ?k9 ?kB ?_ ?cK ?c2 ?c3 ?c4 ?c5; (case kA => exact rfl); (case k2 => k_asm); (case k1 => k_asm); (case XB => assumption); (case TB => assumption); (case D => assumption); (case T0 => first | assumption | exact KtsTurn.refl); (case k3 => k_asm); (case k4 => k_asm); (case k5 => k_asm); (case k6 => k_is); (case k7 => k_is); (case k8 => ktr_room); (case k9 => first | exact binds_K (by k_in) rfl (by k_is) rfl rfl rfl | exact BindsTo.of_eq rfl | fail "kts_go: no rule for these arguments"); (case kB => exact locs rfl); (case cK => exact rfl); (case c2 => exact rfl); (case c3 => exact rfl); (case c4 => exact rfl); (case c5 => decide); k_whole; intro g' L' h' FG' F' N' B' X' T' D'; (try dsimp only); (try k_lift B'); (try k_fold))
  k_steps
  all_goals (refine' ret _ _ _ _ ?za ?zb ?zc ?zd ?ze ?zf ?zg; (case zb => assumption); (case za => assumption); (case zc => first | assumption | exact cb_drop (by assumption) (fun p hp => List.mem_cons_of_mem _ (List.mem_append_left _ hp)) | exact cb_drop (by assumption) (fun p hp => List.mem_cons_of_mem _ hp)); (case zd => assumption); (case ze => assumption); (case zf => assumption); (case zg => assumption))
theorem r_loose {A A₀ : Around} {base h₀ g₀ : Heap} {outer : List Env} {L a : Addr} {cn : Str} {nms : List (Str × NameKind)} {mo : List (Str × Const)} {ccd : Value} {m : Str → Option Value} {news : List (Addr × Obj)} {s : Shared} {Q E : Value → Shared → Prop} {dp un : Nat} {gd : Option (List Code)} (x : Str) (tkx : Tok) (hx : Ascii x) (h61 : ∀ c ∈ codes x, c ≠ 61) (hbad : (figs (codes x)).length % 4 ≠ 0)
    (B : Below A₀ base outer h₀) (F : Fr h₀ L s.heap m) (X : (hd.heap_39 w.params).In h₀) (N : News h₀ L s.heap news) (T : Top hd.view_39 LO mean mg mb h₀) (XB : (hd.heap_39 w.params).In base) (TB : Top hd.view_39 LO mean mg mb base) (D : KtsDicts (outer.filterMap (·.frame)) h₀) (T0 : KtsTurn (outer.filterMap (·.frame)) g₀ h₀)
    (hdp : dp + 5 < recursionLimit) (hun : un + 8 * 5 < cLine)
    (ret : ∀ t h' tk' h₀', KtsTurn (outer.filterMap (·.frame)) g₀ h₀' → Fr h₀' L h' m → News h₀' L h' news → Below A₀ base outer h₀' → (hd.heap_39 w.params).In h₀' → Top hd.view_39 LO mean mg mb h₀' → KtsDicts (outer.filterMap (·.frame)) h₀' → Q (.str (Str.ofString "refused") t) { s with heap := h', toks := tk' }) :
    wpAny (model PR w) (ktrTop dp un gd cn { kind := .function, names := nms, isGenerator := false, isCoroutine := false, more := mo } L a ccd [] outer) (call (.ref 173) [.str x tkx]) Q E s := by
  have e := bInts_text hx
  have z := size_text x
  have hz9 : (x.cps.map (·.toUInt8)).size ≤ 500000 := by rw [z]; exact hx.2
  have h619 : ∀ c ∈ KBw.bInts (x.cps.map (·.toUInt8)), c ≠ 61 := by rw [e]; exact h61
  have hT9 : ¬ Takes false (KBw.bInts (x.cps.map (·.toUInt8))) := by rw [e]; exact fun h => hbad h.2
  have p1 : (∀ c ∈ x.cps.toList, c < 128) ∧ x.length ≤ 500000 := hx
  k_with "call ref" => (k_dflt (show wpAny _ _ (call (.ref 102) [.str x _] []) _ _ _; refine wpAny_call ?_; refine' W.code_def (f := 102) (binds := [(Str.ofString "s", .str x tkx), (Str.ofString "altchars", .none), (Str.ofString "validate", .bool false)]) ?k1 ?k2 ?k3 ?k4 ?k5 ?kA ?kF ?kK ?k6 ?k7 ?k8 ?k9 ?kB ?_ ?c2 ?c3 ?c4 ?c5; (case kA => exact rfl); (case kF => exact rfl); (case kK => first | exact rfl | assumption); (case k1 => k_asm); (case k2 => k_asm); (case k3 => k_asm); (case k4 => k_asm); (case k5 => k_asm); (case k6 => k_is); (case k7 => k_is); (case k8 => ktr_room); (case k9 => first | exact binds_K (by k_in) rfl (by k_is) rfl rfl rfl | exact BindsTo.of_eq rfl | fail "BINDS"); (case c5 => decide); (case kB => exact locs rfl); (case c2 => exact rfl); (case c3 => exact rfl); (case c4 => exact rfl); k_whole; intro g' L' h' FG' F' N' B' X' T'; (try dsimp only); (try k_lift B'); (try k_fold)))
  k_with "call ref" => (refine' use (c_bfdd_str _ _) ?k1 ?k2 ?k3 ?k4 ?k5 ?kK ?kd ?ku ?kp ?_; (case k1 => k_asm); (case k2 => k_asm); (case k3 => k_asm); (case k4 => k_asm); (case k5 => k_asm); (case kK => first | exact rfl | assumption); (case kd => ktr_room); (case ku => ktr_units); (case kp => first | exact trivial | assumption); intro r9 h9 tk9 F9 N9 S9 P9; obtain ⟨t9, rfl⟩ := P9; (try dsimp only); (try k_fold))
  k_with "call ref" => (refine' r_a2b _ _ _ hz9 h619 ?k1 ?k2 ?k3 ?k4 ?k5 ?kK ?kd ?ku ?gok ?gexc; (case k1 => k_asm); (case k2 => k_asm); (case k3 => k_asm); (case k4 => k_asm); (case k5 => k_asm); (case kK => first | exact rfl | assumption); (case kd => ktr_room); (case ku => ktr_units); (case gok => (intro t9 h9 tk9 T9; exact absurd T9 hT9)); (case' gexc => (intro g2 e9 t9 vs9 h9 tk9 no9 F9 S9 U9; have R9 := S9.toK; (try dsimp only at S9 R9 U9 ⊢))))
  refine wpAny_call ?_
  (refine' code_defS (binds := [(Str.ofString "text", .str x tkx)]) ?k1 ?k2 ?k3 ?k4 ?k5 ?XB ?TB ?D ?T0 ?kA ?k6 ?k7 ?k8 ?k9 ?kB ?_ ?cK ?c2 ?c3 ?c4 ?c5; (case kA => exact rfl); (case k2 => k_asm); (case k1 => k_asm); (case XB => assumption); (case TB => assumption); (case D => assumption); (case T0 => first | assumption | exact KtsTurn.refl); (case k3 => k_asm); (case k4 => k_asm); (case k5 => k_asm); (case k6 => k_is); (case k7 => k_is); (case k8 => ktr_room); (case k9 => first | exact binds_K (by k_in) rfl (by k_is) rfl rfl rfl | exact BindsTo.of_eq rfl | fail "kts_go: no rule for these arguments"); (case kB => exact locs rfl); (case cK => exact rfl); (case c2 => exact rfl); (case c3 => exact rfl); (case c4 => exact rfl); (case c5 => decide); k_whole; intro g' L' h' FG' F' N' B' X' T' D'; (try dsimp only); (try k_lift B'); (try k_fold))
  k_steps
  all_goals (refine' ret _ _ _ _ ?za ?zb ?zc ?zd ?ze ?zf ?zg; (case zb => assumption); (case za => assumption); (case zc => first | assumption | exact cb_drop (by assumption) (fun p hp => List.mem_cons_of_mem _ (List.mem_append_left _ hp)) | exact cb_drop (by assumption) (fun p hp => List.mem_cons_of_mem _ hp)); (case zd => assumption); (case ze => assumption); (case zf => assumption); (case zg => assumption))
end
end
section
open PySem.Calls
theorem fill8 : hd.heap_39 = hd.heap_39 ∧ Challenge.rw_pa0032_01 = Challenge.rw_pa0032_01 := by
  k_with_none
  w_top off
  k_fill
  exact ⟨rfl, rfl⟩
local macro_rules | `(tactic| walk_at "pyIter ref") => `(tactic| k_extra "my iter ref")
local macro_rules | `(tactic| walk_at "subscriptTail") => `(tactic| k_extra "my subscript")
theorem rs4 : ∀ n, n ≤ 4 → Builtin.Range.small 0 ((4 * n : Nat) : Int) 4 = true ∧ Builtin.Range.rangeSize 0 ((4 * n : Nat) : Int) 4 = (n : Int) := by decide
section
variable {w : World} {mean : ExcName → Option Value} {mg mb : Str → Option Value}
def Figs (ns : List Int) : Prop := (∀ n ∈ ns, 0 ≤ n ∧ n < 64) ∧ ns.length ≤ 16
theorem c_octets (l : Addr) (vs : List Value) (ns : List Int) : Says w mean mg mb 149 1 (fun h => h.IsList l vs.toArray ∧ IntsAre vs ns ∧ Figs ns ∧ ns.length % 4 = 0) [.ref l] [] (fun _ _ r => ∃ t, r = .bytes (byteArr (decL ns)) t) := by
  unfold Says
  intro dp un gd cn cs a ccd cl outer A₀ base h₀ L m s Q E B F X T hk hd hu hp hret
  refine wpAny_call ?_
  refine' enter (binds := [(Str.ofString "figures", .ref l)]) ?k1 ?k2 ?k3 ?k5 ?kA ?kF ?kK ?k6 ?k7 ?k8 ?k9 ?kB ?_ ?c2 ?c3 ?c4 ?c5; (case kA => exact rfl); (case kF => exact rfl); (case kK => assumption); (case k1 => k_asm); (case k2 => k_asm); (case k3 => k_asm); (case k5 => k_asm); (case k6 => k_is); (case k7 => k_is); (case k8 => ktr_room); (case k9 => first | exact BindsTo.of_eq rfl | exact binds_K (by k_in) rfl (by k_is) rfl rfl rfl | fail "BINDS"); (case c5 => decide); (case kB => exact locs rfl); (case c2 => exact rfl); (case c3 => exact rfl); (case c4 => exact rfl); k_whole; intro g' L' h' hg' FG' F' N' B' X' T'; (try dsimp only); (try k_lift B'); (try k_fold)
  obtain ⟨hp1, hp2, hp3, hp4⟩ := hp
  have hl : g'.IsList l vs.toArray := hg' ▸ hp1
  obtain ⟨hb, hsz⟩ := hp3
  obtain ⟨n, hn⟩ : ∃ n, 4 * n = ns.length := ⟨ns.length / 4, by omega⟩
  have hkl := IntsAre.length hp2
  k_with "my iter ref" => (k_here; k_dflt (refine' kst_step (st := 4) (n := n) (σ := List Int × List Value × Nat) (fun c => [(_, W.listOf c.2.1.toArray c.2.2)]) (fun c => []) (fun c => IntsAre c.2.1 c.1) [] (fun pre c => InvO ns pre.length c.1) ([], [], 0) rfl ?kR ?kS ?kn ?kF ?kN ?kf ?kk ?kp ?turn ?done; (case kR => assumption); (case kF => k_asm); (case kN => k_asm); (case kf => exact .nil); (case kk => exact List.forall_mem_nil _); (case kp => exact invO0 ns); (case kS => (rw [← hn]; exact (rs4 n (by omega)).1)); (case kn => (rw [← hn]; exact (rs4 n (by omega)).2))); (case' turn => (rintro ⟨out, us, c⟩ pre k t u h tk own hk9 hlt hoff hf hI F N; dsimp only [kstB] at F N hf hI hoff; simp only [List.cons_append, List.nil_append, List.map_cons, List.map_nil] at N hoff; have kMark := kstMark; have kLen := IntsAre.length hf; have hI2 := InvO.len hI)); (case' done => (rintro ⟨out, us, c⟩ pre u h tk hlt hf hI F N;  dsimp only [kstB] at F N hf hI; have kMark := kstMark; rw [hlt] at hI; have hI2 := InvO.len hI)))
  k_with "my subscript" => (k_here; k_dflt (refine' itemL (ns := ns) ?a ?b ?c ?d ?e ?f ?_ ?g; (case a => is_list); (case b => exact hp2); (case c => exact hb); (case d => omega); (case e => omega); (case f => omega); (case g => with_unfolding_all rfl); k_whole; intro _ _ _))
  k_with "call type:bytes" => (k_here; k_dflt (refine' bytesW ?F ?N ?m ?i ?r ?z ?h ?_; (case F => k_asm); (case N => k_asm); (case m => k_mem); (case i => assumption); (case r => (rw [invO_end hI hn]; exact dec_in _ hb)); (case z => omega); (case h => rfl); k_whole; intro _ _ _ _ _))
  k_with "state" => first | exact invO_turnF hI hn hlt hk9
  k_steps
  · exact hret _ _ _ (kept9 hg' (by assumption)) (exBytes (by rw [invO_end hI hn]))
end
end
section
open PySem.Calls
theorem fill9 : hd.heap_39 = hd.heap_39 ∧ Challenge.rw_pa0032_01 = Challenge.rw_pa0032_01 := by
  k_with_none
  w_top off
  k_fill
  exact ⟨rfl, rfl⟩
local macro_rules | `(tactic| walk_at "exec If") => `(tactic| k_extra "my if")
local macro_rules | `(tactic| walk_at "pyIter ref") => `(tactic| k_extra "my iter ref")
local macro_rules | `(tactic| walk_at "exec For Name Subscript cons nil") => `(tactic| (k_here; (rename Fr _ _ _ _ => lF'); (with_unfolding_all refine' For_invVF lF' ?k1 ?k2 ?_; (case k1 => exact rfl); (case k2 => exact rfl); k_whole)))
local macro_rules | `(tactic| walk_at "exec For Name Call cons nil") => `(tactic| (k_here; (rename Fr _ _ _ _ => lF'); (with_unfolding_all refine' For_invVF lF' ?k1 ?k2 ?_; (case k1 => exact rfl); (case k2 => exact rfl); k_whole)))
local macro_rules | `(tactic| walk_at "binaryOp Pow int int") => `(tactic| (k_here; k_dflt (refine' powW ?a ?b ?_; (case a => omega); (case b => omega); k_whole; intro _ _ _ _ _)))
local macro_rules | `(tactic| walk_at "binaryOp FloorDiv int int") => `(tactic| (k_here; k_dflt (refine' fdivW ?a ?b ?_; (case a => omega); (case b => omega); k_whole; intro _ _ _)))
local macro_rules | `(tactic| walk_at "binaryOp Mod int int") => `(tactic| (k_here; (with_reducible show wpAny _ _ (binaryOp _ (Value.int _ _) (Value.int 128 _)) _ _ _); k_dflt (refine modW 128 (by omega) (by omega) ?_; k_whole; intro _ _ _ _ _)))
def Fg (fs : List Int) (k : Nat) : Prop := (∀ n ∈ fs, 0 ≤ n ∧ n < 64) ∧ fs.length = k
theorem fg_snoc {fs : List Int} {k : Nat} {v : Int} (h : Fg fs k) (h0 : 0 ≤ v) (h1 : v < 64) : Fg (fs ++ [v]) (k + 1) := by
  refine ⟨fun n hn => ?_, by rw [List.length_append, List.length_singleton, h.2]⟩
  rcases List.mem_append.mp hn with hn | hn
  · exact h.1 n hn
  · rw [List.mem_singleton.mp hn]; exact ⟨h0, h1⟩
theorem fg4 : Fg [62, 20, 63, 46] 4 := ⟨by decide, rfl⟩
theorem fg0 : Fg [] 0 := ⟨by simp, rfl⟩
theorem fg_step {a : Nat} {fs' pre' : List Int} {z v : Int} (h : Fg fs' (a + pre'.length)) (h0 : 0 ≤ v) (h1 : v < 64) : Fg (fs' ++ [v]) (a + (pre' ++ [z]).length) := by
  rw [List.length_append, List.length_singleton, ← Nat.add_assoc]; exact fg_snoc h h0 h1
theorem fg_eq {fs : List Int} {a b : Nat} (h : Fg fs a) (e : a = b) : Fg fs b := e ▸ h
theorem fg_mod {fs : List Int} {a : Nat} (h : Fg fs a) : Fg (fs.map fun k => k.fmod 62) a := by
  refine ⟨fun n hn => ?_, by rw [List.length_map]; exact h.2⟩
  obtain ⟨k, _, rfl⟩ := List.mem_map.mp hn
  have e : k.fmod 62 = k % 62 := Int.fmod_eq_emod_of_nonneg _ (by omega)
  omega
theorem fig_ret {g h' : Heap} {L' l : Addr} {s : Shared} {news : List (Addr × Obj)} {us : List Value} {c a : Nat} {fs : List Int} (N : News g L' h' news) (hm : (l, W.listOf us.toArray c) ∈ news) (hg : g = s.heap) (hi : IntsAre us fs) (hf : Fg fs a) (ha : a ≤ 16) (h4 : a % 4 = 0) :
    ∃ l' us c ns', Value.ref l = .ref l' ∧ h'.get? l' = some (W.listOf us.toArray c) ∧ s.heap.get? l' = none ∧ IntsAre us ns' ∧ Figs ns' ∧ ns'.length % 4 = 0 :=
  ⟨l, us, c, fs, rfl, (N _ hm).1, hg ▸ (N _ hm).2.2, hi, ⟨hf.1, by rw [hf.2]; exact ha⟩, by rw [hf.2]; exact h4⟩
theorem Fg.len {fs : List Int} {k : Nat} (h : Fg fs k) : fs.length = k := h.2
section
variable {w : World} {mean : ExcName → Option Value} {mg mb : Str → Option Value}
theorem c_figures (l : Addr) (vs : List Value) (ns : List Int) : Says w mean mg mb 142 1 (fun h => h.IsList l vs.toArray ∧ IntsAre vs ns ∧ ns.length ≤ 63) [.ref l] [] (fun h h' r => ∃ l' us c ns', r = .ref l' ∧ h'.get? l' = some (W.listOf us.toArray c) ∧ h.get? l' = none ∧ IntsAre us ns' ∧ Figs ns' ∧ ns'.length % 4 = 0) := by
  unfold Says
  intro dp un gd cn cs a ccd cl outer A₀ base h₀ L m s Q E B F X T hk hd hu hp hret
  refine wpAny_call ?_
  refine' enter (binds := [(Str.ofString "script", .ref l)]) ?k1 ?k2 ?k3 ?k5 ?kA ?kF ?kK ?k6 ?k7 ?k8 ?k9 ?kB ?_ ?c2 ?c3 ?c4 ?c5; (case kA => exact rfl); (case kF => exact rfl); (case kK => assumption); (case k1 => k_asm); (case k2 => k_asm); (case k3 => k_asm); (case k5 => k_asm); (case k6 => k_is); (case k7 => k_is); (case k8 => ktr_room); (case k9 => first | exact BindsTo.of_eq rfl | exact binds_K (by k_in) rfl (by k_is) rfl rfl rfl | fail "BINDS"); (case c5 => decide); (case kB => exact locs rfl); (case c2 => exact rfl); (case c3 => exact rfl); (case c4 => exact rfl); k_whole; intro g' L' h' hg' FG' F' N' B' X' T'; (try dsimp only); (try k_lift B'); (try k_fold)
  obtain ⟨hp1, hp2, hp3⟩ := hp
  have hl : g'.IsList l vs.toArray := hg' ▸ hp1
  have hkl := IntsAre.length hp2
  k_with "my if" => (k_here; (with_reducible show wpAny _ _ (exec (Stmt.If _ [Stmt.Assign [Expr.Name ("figures" : Str) _] (Expr.List _ _) _] _ _) _) _ _ _); (fail_if_success (with_reducible show wpAny _ _ _ (WJ _ _ _ _ _ _ _) _ _)); k_dflt (refine' meetJ (σ := Addr × List Value × Nat × List Int × Nat) (fun c => [(c.1, W.listOf c.2.1.toArray c.2.2.1)]) (fun c => [(Str.ofString "figures", .ref c.1)]) (fun c => IntsAre c.2.1 c.2.2.2.1 ∧ Fg c.2.2.2.1 c.2.2.2.2 ∧ (c.2.2.2.2 = 0 ∨ c.2.2.2.2 = 4)) ?jF ?jN ?jgo ?jdone; (case jF => k_asm); (case jN => k_asm); (case' jdone => (rintro ⟨lF, us0, n0, fs0, a0⟩ h tk hP F N; dsimp only [kstB] at F N hP; obtain ⟨I0, G0, ha0⟩ := hP))))
  k_with "my iter ref" => (k_here; k_dflt (refine' kst_listL (ns := ns.take 3) (σ := List Int × List Value × Nat) (fun c => [(_, W.listOf _ 0), (_, W.listOf c.2.1.toArray c.2.2)]) (fun c => []) (fun c => IntsAre c.2.1 c.1) [Str.ofString "turn", Str.ofString "part"] (fun pre c => Fg c.1 (a0 + 4 * pre.length)) (fs0, us0, n0) rfl ?qbkL ?qbki ?qbkF ?qbkN ?qbkf ?qbkk ?qbkp ?qbturn ?qbdone; (case qbkF => k_asm); (case qbkN => k_asm); (case qbkL => (intro c; exact List.Mem.head _)); (case qbki => assumption); (case qbkf => exact I0); (case qbkk => exact List.forall_mem_nil _); (case qbkp => exact G0)); (case' qbturn => (rintro ⟨fs, us, c⟩ pre post number tn u h tk own heq9 hmem hoff hf hI F N; dsimp only [kstB] at F N hf hI hoff; simp only [List.cons_append, List.nil_append, List.map_cons, List.map_nil] at N hoff; have kMark := kstMark; have kLen := IntsAre.length hf; have hI2 := Fg.len hI; have kL9 := congrArg List.length heq9; rw [List.length_append, List.length_cons] at kL9)); (case' qbdone => (rintro ⟨fs, us, c⟩ u h tk hf hI F N;  dsimp only [kstB] at F N hf hI; have kMark := kstMark; have kLen := IntsAre.length hf; have hI2 := Fg.len hI)))
  k_with "my iter ref" => (k_here; k_dflt (refine' kst_step (st := 1) (n := 4) (σ := List Int × List Value × Nat) (fun c => (_, _) :: (_, W.listOf c.2.1.toArray c.2.2) :: own) (fun c => []) (fun c => IntsAre c.2.1 c.1) [Str.ofString "part"] (fun pre' c => Fg c.1 (fs.length + pre'.length)) (fs, us, c) rfl ?qdkR ?qdkS ?qdkn ?qdkF ?qdkN ?qdkf ?qdkk ?qdkp ?qdturn ?qddone; (case qdkR => assumption); (case qdkF => k_asm); (case qdkN => k_asm); (case qdkf => exact hf); (case qdkk => exact List.forall_mem_nil _); (case qdkp => (rw [hI2]; exact hI)); (case qdkS => rfl); (case qdkn => rfl)); (case' qdturn => (rintro ⟨fs', us', c'⟩ pre' k t u' h' tk' own' hk9 hlt hoff' hf' hI' F' N'; dsimp only [kstB] at F' N' hf' hI' hoff'; simp only [List.cons_append, List.nil_append, List.map_cons, List.map_nil] at N' hoff'; have kLen' := IntsAre.length hf'; have hI2' := Fg.len hI')); (case' qddone => (rintro ⟨fs', us', c'⟩ pre' u' h' tk' hlt hf' hI' F' N';  dsimp only [kstB] at F' N' hf' hI'; have kLen' := IntsAre.length hf'; have hI2' := Fg.len hI')))
  k_with "state" => first | exact fg_step hI' (by omega) (by omega) | exact fg_eq hI' (by simp only [List.length_append, List.length_singleton]; omega)
  k_steps
  all_goals first | (rename News g' L' _ _ => hN9; rename Fr g' L' _ _ => hF9; exact WJ.mk (_, _, _, [62, 20, 63, 46], 4) ⟨.cons _ _ (.cons _ _ (.cons _ _ (.cons _ _ .nil))), fg4, .inr rfl⟩ hF9 (news1 hN9) rfl) | (rename News g' L' _ _ => hN9; rename Fr g' L' _ _ => hF9; exact WJ.mk (_, _, _, [], 0) ⟨.nil, fg0, .inl rfl⟩ hF9 (news1 hN9) (one_same _ _ _)) | (refine hret _ _ _ (kept9 hg' (by assumption)) ?_; rename News g' L' _ _ => hN9; refine' fig_ret hN9 ?zm hg' ?zi ?zf ?za ?z4; (case zi => assumption); (case zm => first | k_mem | (with_unfolding_all k_mem)); (case zf => first | exact hI | exact fg_mod hI); (case za => omega); (case z4 => omega))
end
end
section
open PySem.Calls
theorem fill10 : hd.heap_39 = hd.heap_39 ∧ Challenge.rw_pa0032_01 = Challenge.rw_pa0032_01 := by
  k_with_none
  w_top off
  k_fill
  exact ⟨rfl, rfl⟩
local macro_rules | `(tactic| walk_at "call builtin:min") => `(tactic| (k_here; k_dflt (refine' minW rfl ?mF ?mN ?_; (case mF => k_asm); (case mN => k_asm); k_whole; intro _ _ _ _ _ _ _)))
local macro_rules | `(tactic| walk_at "setItem ref int") => `(tactic| k_extra "my set")
local macro_rules | `(tactic| walk_at "exec Assign") => `(tactic| k_extra "my assign")
local macro_rules | `(tactic| walk_at "call type:list") => `(tactic| k_extra "my list")
local macro_rules | `(tactic| walk_at "pyIter ref") => `(tactic| k_extra "my iter ref")
local macro_rules | `(tactic| walk_at "exec For Name Call cons nil") => `(tactic| (k_here; (rename Fr _ _ _ _ => lF'); (with_unfolding_all refine' For_invVF lF' ?k1 ?k2 ?_; (case k1 => exact rfl); (case k2 => exact rfl); k_whole)))
local macro_rules | `(tactic| walk_at "exec If") => `(tactic| k_extra "my if")
local macro_rules | `(tactic| walk_at "exec While BoolOp cons nil") => `(tactic| k_extra "my while")
local macro_rules | `(tactic| walk_at "exec While BoolOp") => `(tactic| k_extra "my while")
local macro_rules | `(tactic| walk_at "subscriptTail") => `(tactic| (k_here; (with_reducible show wpAny _ _ (subscriptTail _ _ (Value.str (txt _) _) _) _ _ _); k_dflt (first
  | (refine' sliceDrop ?a ?b ?c ?F ?N ?_ ?s ?t; (case F => k_asm); (case N => k_asm); (case a => omega); (case b => omega); (case c => omega); (case s => with_unfolding_all rfl); (case t => (intro _; with_unfolding_all rfl)); k_whole; intro _ _ _ _ _ _)
  | (refine' sliceTake ?a ?b ?c ?F ?N ?_ ?s ?t; (case F => k_asm); (case N => k_asm); (case a => omega); (case b => (simp only [bne_iff_ne, ne_eq] at *; omega)); (case c => omega); (case s => with_unfolding_all rfl); (case t => (intro _; with_unfolding_all rfl)); k_whole; intro _ _ _ _ _ _)
  | (refine' sliceAll ?a ?F ?N ?_ ?s ?t; (case F => k_asm); (case N => k_asm); (case a => omega); (case s => with_unfolding_all rfl); (case t => (intro _; with_unfolding_all rfl)); k_whole; intro _ _ _ _ _))))
local macro_rules | `(tactic| walk_at "subscriptTail Name Name str int") => `(tactic| (k_here; (with_reducible show wpAny _ _ (subscriptTail _ _ (Value.str (txt _) _) _) _ _ _); k_dflt (((with_reducible show wpAny _ _ (subscriptTail _ _ _ (Value.int _ _)) _ _ _); refine' charPos ?a ?b ?c ?_ ?s ?t; (case a => omega); (case b => omega); (case c => omega); (case s => with_unfolding_all rfl); (case t => (intro _; with_unfolding_all rfl)); k_whole; intro _ _))))
local macro_rules | `(tactic| walk_at "subscriptTail Name BinOp str int") => `(tactic| (k_here; (with_reducible show wpAny _ _ (subscriptTail _ _ (Value.str (txt _) _) _) _ _ _); k_dflt (((with_reducible show wpAny _ _ (subscriptTail _ _ _ (Value.int _ _)) _ _ _); refine' charNeg ?a ?b ?c ?_ ?s ?t; (case a => omega); (case b => omega); (case c => omega); (case s => with_unfolding_all rfl); (case t => (intro _; with_unfolding_all rfl)); k_whole; intro _ _))))
local macro_rules | `(tactic| walk_at "truthy str") => `(tactic| (k_here; (with_reducible show wpAny _ _ (truthy (Value.str (txt _) _)) _ _ _); k_dflt (refine' truthyT ?a ?_; (case a => omega); k_whole; intro _)))
local macro_rules | `(tactic| walk_at "compareOp Eq str str") => `(tactic| (k_here; first | ((with_reducible show wpAny _ _ (compareOp _ (Value.str (txt _) _) (Value.str (txt _) _)) _ _ _); with_reducible refine eqT ?_) | ((with_reducible show wpAny _ _ (compareOp _ (Value.str (one _) _) (Value.str (one _) _)) _ _ _); with_reducible refine eqOne ?_)))
local macro_rules | `(tactic| walk_at "call builtin:len") => `(tactic| (k_here; (with_reducible show wpAny _ _ (call (Value.builtin "len") [Value.str (txt _) _]) _ _ _); k_dflt (refine' lenT ?a ?_; (case a => omega); k_whole; intro _ _)))
theorem take_zero {p : Int} (l : List Nat) (h : p = 0) : l = l.take (l.length - (-p).toNat) := by subst h; simp
theorem two_same (x y : Str) (u v : Value) (r : Str → Option Value) (h : x ≠ y) : (fun z => if z = y then some v else if z = x then some u else r z) = kstB (fun z => if z = y then some v else if z = x then some u else r z) [(x, u), (y, v)] := by
  funext z
  show _ = if z = x then some u else if z = y then some v else if z = y then some v else if z = x then some u else r z
  by_cases h1 : z = x
  · subst h1; simp only [if_neg h, if_true]
  · by_cases h2 : z = y
    · simp only [if_neg h1, if_pos h2]
    · simp only [if_neg h1, if_neg h2]
section
variable {w : World} {mean : ExcName → Option Value} {mg mb : Str → Option Value}
theorem c_substO (c d : Nat) (tk tl : Tok) : Says w mean mg mb 130 1 (fun _ => True) [.str (one c) tk, .str (one d) tl] [] (fun _ _ r => ∃ t, r = .int (subc (one c) (one d)) t) := by
  unfold Says
  intro dp un gd cn cs a ccd cl outer A₀ base h₀ L m s Q E B F X T hk hd hu hp hret
  exact c_subst _ _ _ _ dp un gd cn cs a ccd cl outer A₀ base h₀ L m s Q E B F X T hk hd hu ⟨Nat.le_of_eq rfl, Nat.le_of_eq rfl⟩ hret
theorem c_lev (la lb : List Nat) (mx : Int) (ta tb tm : Tok) : Says w mean mg mb 137 2 (fun _ => (∀ c ∈ la, c < 128) ∧ (∀ c ∈ lb, c < 128) ∧ la.length ≤ 16 ∧ lb.length ≤ 16) [.str (txt la) ta, .str (txt lb) tb, .int mx tm] [] (fun _ _ r => ∃ t v, r = .int v t ∧ Lev la lb mx v) := by
  unfold Says
  intro dp un gd cn cs a ccd cl outer A₀ base h₀ L m s Q E B F X T hk hd hu hp hret
  refine wpAny_call ?_
  refine' enter (binds := [(Str.ofString "a", .str (txt la) ta), (Str.ofString "b", .str (txt lb) tb), (Str.ofString "max_cost", .int mx tm)]) ?k1 ?k2 ?k3 ?k5 ?kA ?kF ?kK ?k6 ?k7 ?k8 ?k9 ?kB ?_ ?c2 ?c3 ?c4 ?c5; (case kA => exact rfl); (case kF => exact rfl); (case kK => assumption); (case k1 => k_asm); (case k2 => k_asm); (case k3 => k_asm); (case k5 => k_asm); (case k6 => k_is); (case k7 => k_is); (case k8 => ktr_room); (case k9 => first | exact BindsTo.of_eq rfl | exact binds_K (by k_in) rfl (by k_is) rfl rfl rfl | fail "BINDS"); (case c5 => decide); (case kB => exact locs rfl); (case c2 => exact rfl); (case c3 => exact rfl); (case c4 => exact rfl); k_whole; intro g' L' h' hg' FG' F' N' B' X' T'; (try dsimp only); (try k_lift B'); (try k_fold)
  obtain ⟨hA, hB, zA, zB⟩ := hp
  k_with "my while" => (k_here; k_dflt (refine' whileJ (σ := Int × Tok) (fun _ => []) (fun c => [(Str.ofString "post", .int c.1 c.2)]) (PostI (la.drop pre.toNat) (lb.drop pre.toNat)) (fun c => (la.drop pre.toNat).length - (-c.1).toNat) (0, _) ?vF ?vN ?vk ?vp ?vturn ?vdone; (case vF => k_asm); (case vN => k_asm); (case vk => kst_all); (case vp => exact postI0 _ _ _)); (case' vturn => (rintro ⟨post, tq⟩ h tk hP F N; dsimp only [kstB] at F N; unfold PostI at hP; obtain ⟨q1, q2, q3, q4⟩ := hP; dsimp only at q1 q2 q3 q4)); (case' vdone => (rintro ⟨post, tq⟩ h tk hP F N; dsimp only [kstB] at F N; unfold PostI at hP; obtain ⟨q1, q2, q3, q4⟩ := hP; dsimp only at q1 q2 q3 q4)))
  k_with "my while" => (k_here; k_dflt (refine' whileJ (σ := Int × Tok) (fun _ => []) (fun c => [(Str.ofString "pre", .int c.1 c.2)]) (PreI la lb) (fun c => la.length - c.1.toNat) (0, _) ?wF ?wN ?wk ?wp ?wturn ?wdone; (case wF => k_asm); (case wN => k_asm); (case wk => kst_all); (case wp => exact preI0 _ _ _)); (case' wturn => (rintro ⟨pre, tp⟩ h tk hP F N; dsimp only [kstB] at F N; unfold PreI at hP; obtain ⟨p1, p2, p3, p4⟩ := hP; dsimp only at p1 p2 p3 p4)); (case' wdone => (rintro ⟨pre, tp⟩ h tk hP F N; dsimp only [kstB] at F N; unfold PreI at hP; obtain ⟨p1, p2, p3, p4⟩ := hP; dsimp only at p1 p2 p3 p4)))
  k_with "my assign" => (k_here; (with_reducible show wpAny _ _ (exec (Stmt.Assign [Expr.Name ("a" : Str) _] (Expr.Subscript _ (Expr.Slice none (some (Expr.BoolOp _ _ _)) none _) _) _) _) _ _ _); (fail_if_success (with_reducible show wpAny _ _ _ (WJ _ _ _ _ _ _ _) _ _)); k_dflt (refine' meetJ (σ := List Nat × Tok) (fun _ => []) (fun c => [(Str.ofString "a", .str (txt c.1) c.2)]) (fun c => c.1 = (la.drop pre.toNat).take ((la.drop pre.toNat).length - (-post).toNat)) ?xF ?xN ?xgo ?xdone); (case xF => k_asm); (case xN => k_asm); (case' xdone => (rintro ⟨a1, tx⟩ h tk hP F N; dsimp only [kstB] at F N hP; have a1len : a1.length ≤ 16 := by (rw [hP, List.length_take, List.length_drop]; omega))))
  k_with "my assign" => (k_here; (with_reducible show wpAny _ _ (exec (Stmt.Assign [Expr.Name ("b" : Str) _] (Expr.Subscript _ (Expr.Slice none (some (Expr.BoolOp _ _ _)) none _) _) _) _) _ _ _); (fail_if_success (with_reducible show wpAny _ _ _ (WJ _ _ _ _ _ _ _) _ _)); k_dflt (refine' meetJ (σ := List Nat × Tok) (fun _ => []) (fun c => [(Str.ofString "b", .str (txt c.1) c.2)]) (fun c => c.1 = (lb.drop pre.toNat).take ((lb.drop pre.toNat).length - (-post).toNat)) ?yF ?yN ?ygo ?ydone); (case yF => k_asm); (case yN => k_asm); (case' ydone => (rintro ⟨b1, ty⟩ h tk hQ F N; dsimp only [kstB] at F N hQ; have b1len : b1.length ≤ 16 := by (rw [hQ, List.length_take, List.length_drop]; omega))))
  k_with "my if" => (k_here; (with_reducible show wpAny _ _ (exec (Stmt.If (Expr.Compare _ _ _ _) [Stmt.Assign [Expr.Tuple _ _ _] _ _] _ _) _) _ _ _); (fail_if_success (with_reducible show wpAny _ _ _ (WJ _ _ _ _ _ _ _) _ _)); k_dflt (refine' meetJ (σ := List Nat × Tok × List Nat × Tok) (fun _ => []) (fun c => [(Str.ofString "a", .str (txt c.1) c.2.1), (Str.ofString "b", .str (txt c.2.2.1) c.2.2.2)]) (fun c => Swap a1 b1 c.1 c.2.2.1) ?sF ?sN ?sgo ?sdone); (case sF => k_asm); (case sN => k_asm); (case' sdone => (rintro ⟨a2, tx2, b2, ty2⟩ h tk hS F N; dsimp only [kstB] at F N hS; have hS2 := swap_len hS; have h2ab := swap_ascii hS (by rw [hP]; exact part_ascii hA) (by rw [hQ]; exact part_ascii hB); obtain ⟨h2a, h2b⟩ := h2ab)))
  k_with "my list" => (k_here; k_dflt (refine' listRangeW a2.length rfl ?rF ?rN ?rR ?rS ?rn ?rz ?_; (case rF => k_asm); (case rN => k_asm); (case rR => assumption); (case rS => exact (rs2 _ (by omega)).1); (case rn => exact (rs2 _ (by omega)).2); (case rz => omega); k_whole; intro h9 tk9 D9 ys9 cnt9 F9 N9 I9; have hrow : IntsAre ys9 (rowAt a2 b2 0 0) := row_start I9; clear I9))
  k_with "call ref" => (refine' use (c_substO _ _ _ _) ?k1 ?k2 ?k3 ?k4 ?k5 ?kK ?kd ?ku ?kp ?_; (case k1 => k_asm); (case k2 => k_asm); (case k3 => k_asm); (case k4 => k_asm); (case k5 => k_asm); (case kK => first | exact rfl | assumption); (case kd => ktr_room); (case ku => ktr_units); (case kp => first | exact trivial | assumption); intro r9 h9 tk9 F9 N9 S9 P9; obtain ⟨t9, rfl⟩ := P9; (try dsimp only); (try k_fold))
  k_with "my iter ref" => (k_here; k_dflt (refine' kst_step (st := 1) (n := b2.length) (σ := Int × Tok × List Value) (fun c => [(D9, W.listOf c.2.2.toArray cnt9)]) (fun c => [(Str.ofString "result", .int c.1 c.2.1)]) (fun _ => True) [Str.ofString "bchar", Str.ofString "distance", Str.ofString "minimum", Str.ofString "index", Str.ofString "substitute", Str.ofString "insert_delete"] (fun pr c => OutI a2 b2 mx pr.length c.1 c.2.2) (0, _, ys9) rfl ?okR ?okS ?okn ?okF ?okN ?okf ?okk ?okp ?oturn ?odone; (case okR => assumption); (case okF => k_asm); (case okN => k_asm); (case okf => exact trivial); (case okk => kst_all); (case okp => exact out0 hrow); (case okS => exact (rs1 _ (by omega)).1); (case okn => exact (rs1 _ (by omega)).2)); (case' oturn => (rintro ⟨res, tr, us⟩ pr k t u h tk own hk9 hlt hoff _ hO F N; dsimp only [kstB] at F N hO hoff; simp only [List.cons_append, List.nil_append, List.map_cons, List.map_nil] at N hoff; have kRow := OutI.row hO; have kLen := IntsAre.length kRow; rw [rowAt_len] at kLen)); (case' odone => (rintro ⟨res, tr, us⟩ pr u h tk hlt _ hO F N;  dsimp only [kstB] at F N hO; rw [hlt] at hO)))
  k_with "my iter ref" => (k_here; k_dflt (refine' kst_step (st := 1) (n := a2.length) (σ := Int × Tok × Int × Tok × Int × Tok × List Value) (fun c => (D9, W.listOf c.2.2.2.2.2.2.toArray cnt9) :: own) (fun c => [(Str.ofString "minimum", .int c.2.2.2.2.1 c.2.2.2.2.2.1), (Str.ofString "result", .int c.1 c.2.1), (Str.ofString "distance", .int c.2.2.1 c.2.2.2.1)]) (fun _ => True) [Str.ofString "substitute", Str.ofString "insert_delete"] (fun pi c => InI a2 b2 pr.length pi.length c.1 c.2.2.1 c.2.2.2.2.1 c.2.2.2.2.2.2) (k * 2, _, k * 2, _, 9223372036854775807, _, us) rfl ?ikR ?ikS ?ikn ?ikF ?ikN ?ikf ?ikk ?ikp ?iturn ?idone; (case ikR => assumption); (case ikF => k_asm); (case ikN => k_asm); (case ikf => exact trivial); (case ikk => kst_all); (case ikp => exact in0 hO hk9); (case ikS => exact (rs1 _ (by omega)).1); (case ikn => exact (rs1 _ (by omega)).2)); (case' iturn => (rintro ⟨res', tr', dist, td, mn, tm, us'⟩ pi k' t' u' h' tk' own' hk9' hlt' hoff' _ hI F' N'; dsimp only [kstB] at F' N' hI hoff'; simp only [List.cons_append, List.nil_append, List.map_cons, List.map_nil] at N' hoff'; have kRow' := InI.row hI; have kLen' := InI.len hI; have kLen2 := rowAt_len a2 b2 pr.length pi.length)); (case' idone => (rintro ⟨res', tr', dist, td, mn, tm, us'⟩ pi u' h' tk' hlt' _ hI F' N';  dsimp only [kstB] at F' N' hI; rw [hlt'] at hI)))
  k_with "my set" => (k_here; k_dflt (refine' ksa_set ?k1 ?k2 ?k3 ?k4 ?k5 ?k6 ?k7 ?_; (case k1 => k_asm); (case k2 => k_asm); (case k3 => exact Upd.head (fun p hp => (List.mem_append.mp hp).elim (fun h => hoff p h _ (by simp)) (fun h => hoff' p h _ (by simp)))); (case k4 => exact kRow'); (case k5 => omega); (case k6 => omega); (case k7 => omega); k_whole); intro h' F' N' hi' hl' hs'; clear hi' hl' hs'; (try k_sweep))
  k_with "state" => first | exact post_turn q1 q4 (by omega) (by omega) (by assumption) | exact pre_turn p1 p4 (by omega) (by omega) (by assumption) | exact (in_turn h2a h2b hI hk9' hk9 (by omega) (by assumption) (by assumption)).1 (by assumption) | exact (in_turn h2a h2b hI hk9' hk9 (by omega) (by assumption) (by assumption)).2 (by assumption) | (rw [List.length_append, List.length_singleton]; exact in_end (by omega) hO hI (by assumption))
  k_steps
  · exact hret _ _ _ (kept9 hg' (by assumption)) ⟨_, _, rfl, lev_same mx (by assumption)⟩
  · exact hret _ _ _ (kept9 hg' (by assumption)) ⟨_, _, rfl, lev_build (by assumption) p4 q4 hP hQ (core_len (by assumption) (by assumption) hS (by assumption))⟩
  · exact hret _ _ _ (kept9 hg' (by assumption)) ⟨_, _, rfl, lev_build (by assumption) p4 q4 hP hQ (core_dp (by assumption) (by assumption) hS (out_end (by omega) hO))⟩
  · exact hret _ _ _ (kept9 hg' (by assumption)) ⟨_, _, rfl, lev_build (by assumption) p4 q4 hP hQ (core_dp (by assumption) (by assumption) hS (in_cut hlt hI (by assumption)))⟩
  · (refine' WJ.mk (b1, _, a1, _) ?sw1 ?sw2 News.nil ?sw3; (case sw2 => assumption); (case sw1 => exact .inr ⟨rfl, rfl, by omega⟩); (case sw3 => rfl))
  · exact WJ.mk (_, _, _, _) (.inl ⟨rfl, rfl, by omega⟩) (by assumption) (by assumption) (two_same _ _ _ _ _ (by decide))
  · exact hret _ _ _ (kept9 hg' (by assumption)) ⟨_, _, rfl, lev_build (by assumption) p4 q4 hP hQ (core_nil (by omega))⟩
  · exact hret _ _ _ (kept9 hg' (by assumption)) ⟨_, _, rfl, lev_build (by assumption) p4 q4 hP hQ (core_nil (by omega))⟩
  · exact WJ.mk (_, _) rfl (by assumption) (by assumption) rfl
  · exact WJ.mk (lb.drop pre.toNat, _) (take_zero _ (by simp only [bne_iff_ne, ne_eq, Decidable.not_not] at *; omega)) (by assumption) (by assumption) rfl
  · exact WJ.mk (_, _) rfl (by assumption) (by assumption) rfl
  · exact WJ.mk (la.drop pre.toNat, _) (take_zero _ (by simp only [bne_iff_ne, ne_eq, Decidable.not_not] at *; omega)) (by assumption) (by assumption) rfl
  all_goals first | exact WJ.mk (post, tq) ⟨q1, q2, q3, q4⟩ (by assumption) News.nil rfl | exact WJ.mk (pre, tp) ⟨p1, p2, p3, p4⟩ (by assumption) News.nil rfl
end
end
section
open PySem.Calls
theorem fill11 : hd.heap_39 = hd.heap_39 ∧ Challenge.rw_pa0032_01 = Challenge.rw_pa0032_01 := by
  k_with_none
  w_top off
  k_fill
  exact ⟨rfl, rfl⟩
local macro_rules | `(tactic| walk_at "eval ListComp") => `(tactic| k_extra "my ListComp")
local macro_rules | `(tactic| walk_at "call builtin:str.join") => `(tactic| k_extra "my join")
local macro_rules | `(tactic| walk_at "subscriptTail") => `(tactic| k_extra "my subscript")
local macro_rules | `(tactic| walk_at "storeName") => `(tactic| k_extra "my store")
def alph (p q : Nat) : List Nat := (List.range 62).map (fun i => (b64s.getD i 0).toNat) ++ [p, q]
theorem alph_len (p q : Nat) : (alph p q).length = 64 := rfl
theorem alph_text (p q : Nat) : Str.ofString "ABCDEFGHIJKLMNOPQRSTUVWXYZabcdefghijklmnopqrstuvwxyz0123456789" ++ txt [p, q] = txt (alph p q) := by
  have e : Str.ofString "ABCDEFGHIJKLMNOPQRSTUVWXYZabcdefghijklmnopqrstuvwxyz0123456789" = txt ((List.range 62).map (fun i => (b64s.getD i 0).toNat)) := by decide +kernel
  rw [e]
  show Str.mk _ = Str.mk _
  simp [txt, alph]
theorem charS {prog : Program} {w : World} {A : Around} {E : Value → Shared → Prop} {s : Shared} {Q : Value → Shared → Prop} {x : Str} {l : List Nat} {t : Tok} {value slice : PySem.Expr} {i : Int} {ui : Tok} (e : x = txt l) (hz : l.length ≤ 500000) (h0 : 0 ≤ i) (h1 : i < l.length) (h : ∀ t' k, Q (.str (one (l.getD i.toNat 0)) t') { s with toks := k })
    (hs : subscripted slice false (.str (txt l) t) (.int i ui) = operate [.str (txt l) t, .int i ui] (getItem (.str (txt l) t) (.int i ui)) := by with_unfolding_all rfl)
    (ht : ∀ r, letTemporaryGo value (.str (txt l) t) r = pure () := by intro _; with_unfolding_all rfl) :
    wpAny (model prog w) A (subscriptTail value slice (.str x t) (.int i ui)) Q E s := by
  subst e
  exact charPos hz h0 h1 h hs ht
theorem strs_takeL {f : Int → Str} {ns : List Int} {i : Nat} {k : Int} {ys : List Value} {y : Str} {t : Tok} (h : StrsAre ys ((ns.take i).map f)) (hc : ns[i]? = some k) (e : y = f k) : StrsAre (ys ++ [.str y t]) ((ns.take (i + 1)).map f) := by
  rw [List.take_add_one, hc, e]
  simpa using kct_snoc h
section
variable {w : World} {mean : ExcName → Option Value} {mg mb : Str → Option Value}
theorem r_signs {A A₀ : Around} {base h₀ : Heap} {outer : List Env} {L a l : Addr} {cn : Str} {cs : Scope} {ccd : Value} {cl : List (Str × Addr)} {m : Str → Option Value} {news : List (Addr × Obj)} {s : Shared} {Q E : Value → Shared → Prop} {dp un c : Nat} {gd : Option (List Code)} {us : List Value} {ns : List Int} (p q : Nat) (tl : Tok)
    (B : Below A₀ base outer h₀) (F : Fr h₀ L s.heap m) (X : (hd.heap_39 w.params).In h₀) (N : News h₀ L s.heap news) (T : Top hd.view_39 LO mean mg mb h₀) (hk : cs.kind = .function) (hdp : dp + 1 < recursionLimit) (hun : un + 8 * 1 < cLine)
    (hm : (l, W.listOf us.toArray c) ∈ news) (hi : IntsAre us ns) (hf : Figs ns)
    (ret : ∀ t h' tk', Fr h₀ L h' m → News h₀ L h' news → Q (.str (txt (ns.map fun n => (alph p q).getD n.toNat 0)) t) { s with heap := h', toks := tk' }) :
    wpAny (model PR w) (ktrTop dp un gd cn cs L a ccd cl outer) (call (.ref 154) [.ref l, .str (txt [p, q]) tl]) Q E s := by
  obtain ⟨hb, hsz⟩ := hf
  refine wpAny_call ?_
  (refine' code_defC (binds := [(Str.ofString "figures", .ref l), (Str.ofString "last", .str (txt [p, q]) tl)]) ?k1 ?k2 ?k3 ?k4 ?k5 ?kA ?kF ?kK ?k6 ?k7 ?k8 ?k9 ?kB ?kD ?_ ?c2 ?c3 ?c4; (case kA => exact rfl); (case kF => exact rfl); (case kK => assumption); (case k1 => k_asm); (case k2 => k_asm); (case k3 => k_asm); (case k4 => k_asm); (case k5 => k_asm); (case k6 => k_is); (case k7 => k_is); (case k8 => ktr_room); (case k9 => first | exact BindsTo.of_eq rfl | exact binds_K (by k_in) rfl (by k_is) rfl rfl rfl | fail "BINDS"); (case kB => exact rfl); (case kD => decide +kernel); (case c2 => exact rfl); (case c3 => exact rfl); (case c4 => exact rfl); k_whole; intro g' L' h' tk' cells' FG' F' N' Y' B' X' T' l1; k_cells Y'; (try simp only [List.cons_append, List.nil_append] at N'); (try dsimp only); (try k_lift B'); (try k_fold))
  k_with "my store" => (k_here; k_dflt (refine' storeX_C ?F ?N ?c ?U ?d ?_ ?a ?b; (case a => rfl); (case b => rfl); (case F => k_asm); (case N => k_asm); (case c => rfl); (case U => exact UpdF.head (fun p hp => Nat.ne_of_lt (Nat.lt_succ_of_lt (l1 p hp)))); (case d => assumption); k_whole; intro h' o' F' N' d'; (try dsimp only at N'); (try k_sweep)))
  k_with "my ListComp" => (k_here; k_dflt (refine' compLU (l := l) (ol := W.listOf us.toArray c) (vs := us) (ns := ns) (fun nw => (l, W.listOf us.toArray c) ∈ nw) (fun i ys => StrsAre ys ((ns.take i).map fun n => one ((alph p q).getD n.toNat 0))) ?kS ?kK ?kL hi rfl ?kF ?kN ?k1 ?k2 ?k3 ?k4 ?k5 ?hi ?k6 ?k7 ?turn ?fin; (case kF => k_asm); (case kN => k_asm); (case kS => exact List.mem_cons_of_mem _ hm); (case kK => (intro h' nw _ N hn; exact (N _ hn).1)); (case kL => (intro h' e; exact ⟨_, e, rfl, _, rfl⟩)); (case k1 => with_unfolding_all rfl); (case k2 => decide); (case k3 => rfl); (case k4 => decide); (case k5 => rfl); (case hi => (refine' nameX_L ?f ?e ?q ?v ?z; (case f => k_asm); (case e => rfl); (case v => rfl); (case z => rfl); (case q => exact ⟨rfl, rfl⟩))); (case k6 => (rw [PySem.sizeLine_eq]; omega)); (case k7 => exact .nil)))
  k_with "my subscript" => (k_here; k_dflt (refine' charS (alph_text p q) ?a ?b ?c ?_ ?s ?t; (case a => (rw [alph_len]; omega)); (case b => exact (hb _ (List.mem_of_getElem? (by assumption))).1); (case c => (rw [alph_len]; exact (hb _ (List.mem_of_getElem? (by assumption))).2)); (case s => with_unfolding_all rfl); (case t => (intro _; with_unfolding_all rfl)); k_whole; intro _ _))
  k_with "my join" => (k_dflt (refine' join9 (l := ns.map fun n => (alph p q).getD n.toNat 0) ?N ?m ?i ?w ?_; (case N => k_asm); (case m => k_mem); (case i => (rename StrsAre _ _ => hS9; rw [List.map_map]; rw [List.take_of_length_le (by simp)] at hS9; exact hS9)); (case w => (rw [List.length_map]; omega)); k_whole; intro _ _))
  k_steps
  · exact Pend.mk (fun _ _ e => e) (strs_takeL (by assumption) (by assumption) rfl)
  · rename News h₀ L _ _ => kN9
    exact ret _ _ _ (by assumption) (fun p hp => kN9 p (List.mem_cons_of_mem _ (List.mem_cons_of_mem _ hp)))
end
end
section
open PySem.Calls
theorem fill12 : hd.heap_39 = hd.heap_39 ∧ Challenge.rw_pa0032_01 = Challenge.rw_pa0032_01 := by
  k_with_none
  w_top off
  k_fill
  exact ⟨rfl, rfl⟩
local macro_rules | `(tactic| walk_at "call builtin:len") => `(tactic| k_extra "my len")
local macro_rules | `(tactic| walk_at "eval ListComp") => `(tactic| k_extra "my ListComp")
def TextOk (A : List Nat) : Prop := (∀ c ∈ A, c < 128) ∧ A.length ≤ 16
def ToldP (A B : List Nat) (D : Int) : Prop := (A = B → D = 0) ∧ (A ≠ B → D ≠ 0 ∧ Far A B D)
theorem told_yes {A B : List Nat} {D bd v : Int} (h : ToldP A B D) (hl : Lev A B bd v) (hd : D ≤ bd ∨ D = 0) : v = D := by
  by_cases e : A = B
  · rw [hl.1 e, h.1 e]
  · have h1 := lev_far hl e (h.2 e).2
    have h2 := (h.2 e).1
    omega
theorem told_over {A B : List Nat} {D bd v : Int} (h : ToldP A B D) (hl : Lev A B bd v) (h1 : ¬ D ≤ bd) (h0 : ¬ D = 0) : bd < v := by
  by_cases e : A = B
  · exact absurd (h.1 e) h0
  · have h1 := lev_far hl e (h.2 e).2
    omega
section
variable {w : World} {mean : ExcName → Option Value} {mg mb : Str → Option Value}
theorem c_told (la lb : List Nat) (bd du : Int) (ta tb tc td : Tok) : Says w mean mg mb 187 3 (fun _ => TextOk la ∧ TextOk lb ∧ ToldP la lb du) [.str (txt la) ta, .str (txt lb) tb, .int bd tc, .int du td] [] (fun _ _ r => r = .bool true) := by
  unfold Says
  intro dp un gd cn cs a ccd cl outer A₀ base h₀ L m s Q E B F X T hk hd hu hp hret
  refine wpAny_call ?_
  refine' enter (binds := [(Str.ofString "one", .str (txt la) ta), (Str.ofString "other", .str (txt lb) tb), (Str.ofString "bound", .int bd tc), (Str.ofString "due", .int du td)]) ?k1 ?k2 ?k3 ?k5 ?kA ?kF ?kK ?k6 ?k7 ?k8 ?k9 ?kB ?_ ?c2 ?c3 ?c4 ?c5; (case kA => exact rfl); (case kF => exact rfl); (case kK => assumption); (case k1 => k_asm); (case k2 => k_asm); (case k3 => k_asm); (case k5 => k_asm); (case k6 => k_is); (case k7 => k_is); (case k8 => ktr_room); (case k9 => first | exact BindsTo.of_eq rfl | exact binds_K (by k_in) rfl (by k_is) rfl rfl rfl | fail "BINDS"); (case c5 => decide); (case kB => exact locs rfl); (case c2 => exact rfl); (case c3 => exact rfl); (case c4 => exact rfl); k_whole; intro g' L' h' hg' FG' F' N' B' X' T'; (try dsimp only); (try k_lift B'); (try k_fold)
  obtain ⟨hA, hB, hT⟩ := hp
  have p1 : (∀ c ∈ la, c < 128) ∧ (∀ c ∈ lb, c < 128) ∧ la.length ≤ 16 ∧ lb.length ≤ 16 := ⟨hA.1, hB.1, hA.2, hB.2⟩
  k_with "call ref" => (refine' use (c_lev _ _ _ _ _ _) ?k1 ?k2 ?k3 ?k4 ?k5 ?kK ?kd ?ku ?kp ?_; (case k1 => k_asm); (case k2 => k_asm); (case k3 => k_asm); (case k4 => k_asm); (case k5 => k_asm); (case kK => first | exact rfl | assumption); (case kd => ktr_room); (case ku => ktr_units); (case kp => first | exact trivial | assumption); intro r9 h9 tk9 F9 N9 S9 P9; obtain ⟨t9, v9, rfl, hL9⟩ := P9; (try dsimp only); (try k_fold))
  k_steps
  · exact hret _ _ _ (kept9 hg' (by assumption)) (by rw [told_yes hT hL9 (by omega)]; simp)
  · exact hret _ _ _ (kept9 hg' (by assumption)) (by rw [told_yes hT hL9 (by omega)]; simp)
  · exact hret _ _ _ (kept9 hg' (by assumption)) (by rw [decide_eq_true (told_over hT hL9 (by omega) (by omega))])
theorem c_far (l lf : Addr) (vs us : List Value) (ns fs : List Int) (la lb le : List Nat) (ta tb tc : Tok) : Says w mean mg mb 192 4 (fun h => h.IsList l vs.toArray ∧ IntsAre vs ns ∧ ns.length ≤ 63 ∧ h.IsList lf us.toArray ∧ IntsAre us fs ∧ fs.length ≤ 16 ∧ TextOk la ∧ TextOk lb ∧ TextOk le ∧ ToldP la lb (2 * ((fs.filter fun f => decide (62 ≤ f)).length : Int)) ∧ (2 * ((fs.filter fun f => decide (62 ≤ f)).length : Int) ≠ 0 → ToldP lb le (2 * ((fs.filter fun f => decide (62 ≤ f)).length : Int)) ∧ ToldP le la (2 * ((fs.filter fun f => decide (62 ≤ f)).length : Int))))
    [.ref l, .ref lf, .str (txt la) ta, .str (txt lb) tb, .str (txt le) tc] [] (fun _ _ r => r = .bool true) := by
  unfold Says
  intro dp un gd cn cs a ccd cl outer A₀ base h₀ L m s Q E B F X T hk hd hu hp hret
  refine wpAny_call ?_
  refine' enter (binds := [(Str.ofString "script", .ref l), (Str.ofString "figures", .ref lf), (Str.ofString "plain", .str (txt la) ta), (Str.ofString "safe", .str (txt lb) tb), (Str.ofString "left", .str (txt le) tc)]) ?k1 ?k2 ?k3 ?k5 ?kA ?kF ?kK ?k6 ?k7 ?k8 ?k9 ?kB ?_ ?c2 ?c3 ?c4 ?c5; (case kA => exact rfl); (case kF => exact rfl); (case kK => assumption); (case k1 => k_asm); (case k2 => k_asm); (case k3 => k_asm); (case k5 => k_asm); (case k6 => k_is); (case k7 => k_is); (case k8 => ktr_room); (case k9 => first | exact BindsTo.of_eq rfl | exact binds_K (by k_in) rfl (by k_is) rfl rfl rfl | fail "BINDS"); (case c5 => decide); (case kB => exact locs rfl); (case c2 => exact rfl); (case c3 => exact rfl); (case c4 => exact rfl); k_whole; intro g' L' h' hg' FG' F' N' B' X' T'; (try dsimp only); (try k_lift B'); (try k_fold)
  obtain ⟨hp1, hp2, hp3, hp4, hp5, hp6, hA, hB, hC, hT1, hT2⟩ := hp
  have hl : g'.IsList l vs.toArray := hg' ▸ hp1
  have hlf : g'.IsList lf us.toArray := hg' ▸ hp4
  have hkl := IntsAre.length hp2
  have hkl2 := IntsAre.length hp5
  generalize hk9 : (fs.filter fun f => decide (62 ≤ f)).length = k9 at hT1 hT2
  have hk10 : k9 ≤ 16 := by rw [← hk9]; exact Nat.le_trans (List.length_filter_le _ _) hp6
  have q1 : TextOk la ∧ TextOk lb ∧ ToldP la lb (2 * (k9 : Int)) := ⟨hA, hB, hT1⟩
  obtain ⟨olf, elf, edf⟩ := hlf
  have q2 : 2 * (k9 : Int) ≠ 0 → TextOk lb ∧ TextOk le ∧ ToldP lb le (2 * (k9 : Int)) := fun h => ⟨hB, hC, (hT2 h).1⟩
  have q3 : 2 * (k9 : Int) ≠ 0 → TextOk le ∧ TextOk la ∧ ToldP le la (2 * (k9 : Int)) := fun h => ⟨hC, hA, (hT2 h).2⟩
  k_with "my ListComp" => (k_here; k_dflt (refine' compLT (l := lf) (ol := olf) (vs := us) (ns := fs) (fun _ => True) (fun i ys => IntsAre ys ((fs.take i).filter fun f => decide (62 ≤ f))) trivial ?kK ?kL hp5 rfl ?kF ?kN ?k1 ?k2 ?k3 ?k4 ?k5 ?hi ?k6 ?k7 ?turn ?fin; (case kF => k_asm); (case kN => k_asm); (case kK => (intro h' nw hs _ _; exact hs _ _ elf)); (case kL => (intro h' e; exact ⟨_, e, edf⟩)); (case k1 => with_unfolding_all rfl); (case k2 => decide); (case k3 => rfl); (case k4 => decide); (case k5 => rfl); (case hi => (refine' ld ?f ?e ?q; (case f => k_asm); (case e => rfl); (case q => exact ⟨rfl, rfl⟩))); (case k6 => (rw [PySem.sizeLine_eq]; omega)); (case k7 => exact .nil); (case' fin => (intro D ys h tk hR F N; have hR2 : ys.length = k9 := by (rw [hR.length, List.take_length, hk9])))))
  k_with "my len" => (k_here; k_dflt (refine' lenN ?N ?m ?e ?z ?_; (case N => k_asm); (case m => k_mem); (case e => exact hR2); (case z => omega); k_whole; intro _ _))
  k_with "call ref" => (refine' use (c_told _ _ _ _ _ _ _ _) ?k1 ?k2 ?k3 ?k4 ?k5 ?kK ?kd ?ku ?kp ?_; (case k1 => k_asm); (case k2 => k_asm); (case k3 => k_asm); (case k4 => k_asm); (case k5 => k_asm); (case kK => first | exact rfl | assumption); (case kd => ktr_room); (case ku => ktr_units); (case kp => first | exact trivial | assumption | k_extra "my pre"); intro r9 h9 tk9 F9 N9 S9 P9; subst P9; (try dsimp only); (try k_fold))
  k_with "my pre" => first | exact q2 (by omega) | exact q3 (by omega)
  k_steps
  · exact hret _ _ _ (kept9 hg' (by assumption)) rfl
  · exact hret _ _ _ (kept9 hg' (by assumption)) rfl
  · exact Pend.mk (fun _ _ e => e) (ints_in (by assumption) (by assumption) (decide_eq_true (by omega)))
  · exact Pend.mk (fun _ _ e => e) (ints_out (by assumption) (by assumption) (decide_eq_false (by omega)))
end
end
section
/-! the plain law, part 7: figures, signs and octets -/
def In64 (ns : List Int) : Prop := ∀ n ∈ ns, 0 ≤ n ∧ n < 64
theorem by64 {p : Int → Prop} (h : ∀ i : Nat, i < 64 → p (i : Int)) {n : Int} (h0 : 0 ≤ n) (h1 : n < 64) : p n := by
  obtain ⟨i, rfl⟩ := Int.eq_ofNat_of_zero_le h0
  exact h i (by omega)
/-- the sign of a figure -/
def sgP (n : Int) : Nat := (alph 43 47).getD n.toNat 0
def sgS (n : Int) : Nat := (alph 45 95).getD n.toNat 0
theorem map64 {α : Type} {f g : Int → α} {ns : List Int} (hn : In64 ns) (h : ∀ i : Nat, i < 64 → f i = g i) : ns.map f = ns.map g :=
  List.map_congr_left fun n hm => by64 (p := fun n => f n = g n) h (hn n hm).1 (hn n hm).2
theorem bInts_arr {l : List Int} (h : ∀ n ∈ l, 0 ≤ n ∧ n < 256) : KBw.bInts (byteArr l) = l := by
  unfold KBw.bInts byteArr
  rw [List.toList_toArray, List.map_map]
  conv => rhs; rw [← List.map_id l]
  refine List.map_congr_left fun n hn => ?_
  obtain ⟨h0, h1⟩ := h n hn
  show (((UInt8.ofNat n.toNat).toNat : Nat) : Int) = n
  rw [UInt8.toNat_ofNat']
  omega
theorem nats_arr {l : List Int} (h : ∀ n ∈ l, 0 ≤ n ∧ n < 256) : (byteArr l).toList.map (·.toNat) = l.map Int.toNat := by
  unfold byteArr
  rw [List.toList_toArray, List.map_map]
  refine List.map_congr_left fun n hn => ?_
  obtain ⟨h0, h1⟩ := h n hn
  show (UInt8.ofNat n.toNat).toNat = n.toNat
  rw [UInt8.toNat_ofNat']
  omega
theorem enc_dec : ∀ ns : List Int, In64 ns → ns.length % 4 = 0 → encL (decL ns) = ns
  | [], _, _ => rfl
  | [_], _, h => by simp at h
  | [_, _], _, h => by simp at h
  | [_, _, _], _, h => by simp at h
  | f0 :: f1 :: f2 :: f3 :: r, hn, h => by
    have h0 := hn f0 (by simp); have h1 := hn f1 (by simp); have h2 := hn f2 (by simp); have h3 := hn f3 (by simp)
    have ih := enc_dec r (fun n hm => hn n (by simp [hm])) (by simp only [List.length_cons] at h; omega)
    simp only [decL, encL, ih]
    rw [show (f0 * 4 + f1 / 16) / 4 = f0 by omega, show (f0 * 4 + f1 / 16) % 4 * 16 + (f1 % 16 * 16 + f2 / 4) / 16 = f1 by omega, show (f1 % 16 * 16 + f2 / 4) % 16 * 4 + (f2 % 4 * 64 + f3) / 64 = f2 by omega, show (f2 % 4 * 64 + f3) % 64 = f3 by omega]
theorem dec_size : ∀ ns : List Int, ns.length % 4 = 0 → 4 * (decL ns).length = 3 * ns.length
  | [], _ => rfl
  | [_], h => by simp at h
  | [_, _], h => by simp at h
  | [_, _, _], h => by simp at h
  | _ :: _ :: _ :: _ :: r, h => by
    have := dec_size r (by simp only [List.length_cons] at h; omega)
    simp only [decL, List.length_cons]
    omega
theorem oct_size {ns : List Int} (h : ns.length % 4 = 0) (hz : ns.length ≤ 16) : (byteArr (decL ns)).size ≤ 500000 ∧ (byteArr (decL ns)).size % 3 = 0 := by
  have := dec_size ns h
  rw [byteArr_size]
  omega
/-- what the first writer writes -/
theorem plain_text {ns : List Int} (hn : In64 ns) (h4 : ns.length % 4 = 0) : (byteArr ((encL (KBw.bInts (byteArr (decL ns)))).map sgn)).toList.map (·.toNat) = ns.map sgP := by
  rw [bInts_arr (dec_in ns hn), enc_dec ns hn h4, nats_arr sgn_in, List.map_map]
  exact map64 hn (by decide)
/-- what the second one writes -/
theorem safe_text {ns : List Int} (hn : In64 ns) (h4 : ns.length % 4 = 0) : (trans tenc (byteArr ((encL (KBw.bInts (byteArr (decL ns)))).map sgn))).toList.map (·.toNat) = ns.map sgS := by
  rw [bInts_arr (dec_in ns hn), enc_dec ns hn h4]
  unfold trans byteArr
  rw [Array.toList_map, List.toList_toArray, List.map_map, List.map_map, List.map_map]
  exact map64 hn (by decide +kernel)
theorem pt_size (ns : List Int) : (byteArr ((encL (KBw.bInts (byteArr (decL ns)))).map sgn)).size ≤ 500000 ↔ (encL (KBw.bInts (byteArr (decL ns)))).length ≤ 500000 := by
  rw [byteArr_size, List.length_map]
theorem codes_txt (l : List Nat) : codes (txt l) = l.map fun (c : Nat) => (c : Int) := rfl
theorem figs_map (l : List Int) : figs l = (l.map b64v).filter (fun v => decide (v < 64)) := rfl
theorem filter_all {p : Int → Bool} {l : List Int} (h : ∀ n ∈ l, p n = true) : l.filter p = l := List.filter_eq_self.mpr h
theorem figs_plain {ns : List Int} (hn : In64 ns) : figs (codes (txt (ns.map sgP))) = ns := by
  rw [figs_map, codes_txt, List.map_map, List.map_map]
  have e : ns.map ((b64v ∘ (fun (c : Nat) => (c : Int))) ∘ sgP) = ns.map id := map64 hn (by decide)
  rw [e, List.map_id]
  exact filter_all fun n hm => decide_eq_true (hn n hm).2
/-- the figures that are left -/
def keptL (ns : List Int) : List Int := ns.filter fun n => decide (n < 62)
theorem figs_safe {ns : List Int} (hn : In64 ns) : figs (codes (txt (ns.map sgS))) = keptL ns := by
  rw [figs_map, codes_txt, List.map_map, List.map_map]
  have e : ns.map ((b64v ∘ (fun (c : Nat) => (c : Int))) ∘ sgS) = ns.map fun n => if n < 62 then n else 64 := map64 hn (by decide)
  rw [e]
  unfold keptL
  clear e
  induction ns with
  | nil => rfl
  | cons n r ih =>
    have ih := ih fun m hm => hn m (by simp [hm])
    have hb := hn n (by simp)
    by_cases h : n < 62
    · simp only [List.map_cons, if_pos h, List.filter_cons, decide_eq_true h, if_true, ih]
      rw [decide_eq_true (by omega : n < 64)]
      simp
    · simp only [List.map_cons, if_neg h, List.filter_cons, decide_eq_false h]
      simpa using ih
theorem trans_text (l : List Nat) (h : ∀ c ∈ l, c < 128) : KBw.bInts (trans tdec ((txt l).cps.map (·.toUInt8))) = l.map fun c => (((tdec.getD c (c.toUInt8)).toNat : Nat) : Int) := by
  unfold KBw.bInts trans
  rw [Array.toList_map, Array.toList_map, List.map_map, List.map_map]
  show (txt l).cps.toList.map _ = _
  have e : (txt l).cps.toList = l := by simp [txt]
  rw [e]
  refine List.map_congr_left fun c hc => ?_
  have := h c hc
  have e2 : (UInt8.ofNat c).toNat = c := by rw [UInt8.toNat_ofNat']; omega
  show ((((tdec.getD (UInt8.ofNat c).toNat (UInt8.ofNat c)).toNat : Nat)) : Int) = _
  rw [e2]
theorem sgP_in : ∀ i : Nat, i < 64 → sgP i < 128 ∧ sgP i ≠ 45 ∧ sgP i ≠ 95 := by decide
theorem sgS_in : ∀ i : Nat, i < 64 → sgS i < 128 ∧ sgS i ≠ 43 ∧ sgS i ≠ 47 := by decide
theorem ascP {ns : List Int} (hn : In64 ns) : ∀ c ∈ ns.map sgP, c < 128 := by
  intro c hc
  obtain ⟨n, hm, rfl⟩ := List.mem_map.mp hc
  exact by64 (p := fun n => sgP n < 128) (fun i hi => (sgP_in i hi).1) (hn n hm).1 (hn n hm).2
theorem ascS {ns : List Int} (hn : In64 ns) : ∀ c ∈ ns.map sgS, c < 128 := by
  intro c hc
  obtain ⟨n, hm, rfl⟩ := List.mem_map.mp hc
  exact by64 (p := fun n => sgS n < 128) (fun i hi => (sgS_in i hi).1) (hn n hm).1 (hn n hm).2
theorem transP {ns : List Int} (hn : In64 ns) : KBw.bInts (trans tdec ((txt (ns.map sgP)).cps.map (·.toUInt8))) = codes (txt (ns.map sgP)) := by
  rw [trans_text _ (ascP hn), codes_txt, List.map_map, List.map_map]
  exact map64 hn (by decide +kernel)
theorem transS {ns : List Int} (hn : In64 ns) : KBw.bInts (trans tdec ((txt (ns.map sgS)).cps.map (·.toUInt8))) = codes (txt (ns.map sgP)) := by
  rw [trans_text _ (ascS hn), codes_txt, List.map_map, List.map_map]
  exact map64 hn (by decide +kernel)
theorem strictP {ns : List Int} (hn : In64 ns) (h4 : ns.length % 4 = 0) : Strict (codes (txt (ns.map sgP))) := by
  refine ⟨fun c hc => ?_, by rw [figs_plain hn]; exact h4⟩
  rw [codes_txt, List.map_map] at hc
  obtain ⟨n, hm, rfl⟩ := List.mem_map.mp hc
  exact by64 (p := fun n => ((fun (c : Nat) => (c : Int)) ∘ sgP) n ≠ 61 ∧ b64v (((fun (c : Nat) => (c : Int)) ∘ sgP) n) < 64) (by decide) (hn n hm).1 (hn n hm).2
theorem looseP {ns : List Int} (hn : In64 ns) (h4 : ns.length % 4 = 0) : Loose (codes (txt (ns.map sgP))) := ⟨fun c hc => ((strictP hn h4).1 c hc).1, (strictP hn h4).2⟩
theorem no61S {ns : List Int} (hn : In64 ns) : ∀ c ∈ codes (txt (ns.map sgS)), c ≠ 61 := by
  intro c hc
  rw [codes_txt, List.map_map] at hc
  obtain ⟨n, hm, rfl⟩ := List.mem_map.mp hc
  exact by64 (p := fun n => ((fun (c : Nat) => (c : Int)) ∘ sgS) n ≠ 61) (by decide) (hn n hm).1 (hn n hm).2
theorem asciiT {l : List Nat} (h : ∀ c ∈ l, c < 128) (hz : l.length ≤ 500000) : Ascii (txt l) := by
  refine ⟨?_, by rw [len_txt]; exact hz⟩
  have e : (txt l).cps.toList = l := by simp [txt]
  rw [e]; exact h
theorem badS {ns : List Int} (hn : In64 ns) (h : (keptL ns).length ≠ ns.length) : ∃ c ∈ codes (txt (ns.map sgS)), 64 ≤ b64v c := by
  have : ∃ n ∈ ns, ¬ n < 62 := by
    refine Classical.byContradiction fun hc => h ?_
    unfold keptL
    rw [filter_all fun n hm => decide_eq_true (Classical.byContradiction fun hlt => hc ⟨n, hm, hlt⟩)]
  obtain ⟨n, hm, hlt⟩ := this
  refine ⟨(sgS n : Int), ?_, ?_⟩
  · rw [codes_txt, List.map_map]
    exact List.mem_map.mpr ⟨n, hm, rfl⟩
  · exact by64 (p := fun n => ¬ n < 62 → 64 ≤ b64v (sgS n)) (by decide) (hn n hm).1 (hn n hm).2 hlt
/-- the third text -/
theorem left_text {ns : List Int} (hn : In64 ns) : (ns.map sgS).filter (fun c => !(c == 45 || c == 95)) = (keptL ns).map sgS := by
  unfold keptL
  rw [List.filter_map]
  congr 1
  refine List.filter_congr fun n hm => ?_
  exact by64 (p := fun n => ((fun c => !(c == 45 || c == 95)) ∘ sgS) n = decide (n < 62)) (by decide) (hn n hm).1 (hn n hm).2
theorem kept_in {ns : List Int} (hn : In64 ns) : In64 (keptL ns) := fun n hm => hn n ((List.mem_filter.mp hm).1)
theorem kept_same {ns : List Int} (hn : In64 ns) : (keptL ns).map sgP = (keptL ns).map sgS := by
  refine List.map_congr_left fun n hm => ?_
  have h1 := kept_in hn n hm
  have h2 : n < 62 := by simpa using (List.mem_filter.mp hm).2
  exact by64 (p := fun n => n < 62 → sgP n = sgS n) (by decide) h1.1 h1.2 h2
theorem kept_len (ns : List Int) : (keptL ns).length ≤ ns.length := List.length_filter_le _ _
theorem kept_all {ns : List Int} (h : (keptL ns).length = ns.length) : keptL ns = ns := List.Sublist.eq_of_length List.filter_sublist h
theorem kept_octs {ns : List Int} (hn : In64 ns) (hz : ns.length ≤ 16) : Figs (keptL ns) := ⟨kept_in hn, Nat.le_trans (kept_len ns) hz⟩
theorem size_plain {ns : List Int} (hn : In64 ns) (h4 : ns.length % 4 = 0) (hz : ns.length ≤ 16) : (byteArr ((encL (KBw.bInts (byteArr (decL ns)))).map sgn)).size ≤ 500000 := by
  rw [byteArr_size, List.length_map, bInts_arr (dec_in ns hn), enc_dec ns hn h4]; omega
theorem size_safe {ns : List Int} (hn : In64 ns) (h4 : ns.length % 4 = 0) (hz : ns.length ≤ 16) : (trans tenc (byteArr ((encL (KBw.bInts (byteArr (decL ns)))).map sgn))).size ≤ 500000 := by
  unfold trans
  rw [Array.size_map]
  exact size_plain hn h4 hz
theorem asciiP {ns : List Int} (hn : In64 ns) (hz : ns.length ≤ 16) : Ascii (txt (ns.map sgP)) := asciiT (ascP hn) (by rw [List.length_map]; omega)
theorem asciiS {ns : List Int} (hn : In64 ns) (hz : ns.length ≤ 16) : Ascii (txt (ns.map sgS)) := asciiT (ascS hn) (by rw [List.length_map]; omega)
theorem kept_count (ns : List Int) : (keptL ns).length + (ns.filter fun f => decide (62 ≤ f)).length = ns.length := by
  unfold keptL
  induction ns with
  | nil => rfl
  | cons n r ih =>
    by_cases h : n < 62
    · simp only [List.filter_cons, decide_eq_true h, decide_eq_false (by omega : ¬ 62 ≤ n), if_true, List.length_cons]
      simp; omega
    · simp only [List.filter_cons, decide_eq_false h, decide_eq_true (by omega : 62 ≤ n), if_true, List.length_cons]
      simp; omega
end
section
/-! the plain law, part 8: the three texts are equally far from each other -/
def dueOf (ns : List Int) : Int := 2 * ((ns.filter fun f => decide (62 ≤ f)).length : Int)
theorem okP {ns : List Int} (hn : In64 ns) (hz : ns.length ≤ 16) : TextOk (ns.map sgP) := ⟨ascP hn, by rw [List.length_map]; exact hz⟩
theorem okS {ns : List Int} (hn : In64 ns) (hz : ns.length ≤ 16) : TextOk (ns.map sgS) := ⟨ascS hn, by rw [List.length_map]; exact hz⟩
theorem okL {ns : List Int} (hn : In64 ns) (hz : ns.length ≤ 16) : TextOk ((keptL ns).map sgS) := okS (kept_in hn) (Nat.le_trans (kept_len ns) hz)
theorem sg_same {n : Int} (h0 : 0 ≤ n) (h1 : n < 64) : sgP n = sgS n ↔ n < 62 := by64 (p := fun n => sgP n = sgS n ↔ n < 62) (by decide) h0 h1
theorem due_zero {ns : List Int} (hn : In64 ns) : ns.map sgP = ns.map sgS ↔ dueOf ns = 0 := by
  have e : dueOf ns = 0 ↔ ∀ n ∈ ns, n < 62 := by
    unfold dueOf
    constructor
    · intro h n hm
      have hl : (ns.filter fun f => decide (62 ≤ f)).length = 0 := by omega
      have := List.filter_eq_nil_iff.mp (List.length_eq_zero_iff.mp hl) n hm
      simpa using this
    · intro h
      have : (ns.filter fun f => decide (62 ≤ f)) = [] := List.filter_eq_nil_iff.mpr fun n hm => by have := h n hm; simpa using this
      rw [this]; rfl
  rw [e, List.map_inj_left]
  exact ⟨fun h n hm => (sg_same (hn n hm).1 (hn n hm).2).mp (h n hm), fun h n hm => (sg_same (hn n hm).1 (hn n hm).2).mpr (h n hm)⟩
def isP (c : Nat) : Bool := c == 43 || c == 47
theorem isP_sgP {n : Int} (h0 : 0 ≤ n) (h1 : n < 64) : isP (sgP n) = decide (62 ≤ n) := by64 (p := fun n => isP (sgP n) = decide (62 ≤ n)) (by decide) h0 h1
theorem isP_sgS {n : Int} (h0 : 0 ≤ n) (h1 : n < 64) : isP (sgS n) = false := by64 (p := fun n => isP (sgS n) = false) (by decide) h0 h1
theorem cost_P {x y : Nat} (hx : isP x = true) (hy : isP y = false) : cost y x = 2 := by
  have h1 : x = 43 ∨ x = 47 := by simpa [isP] using hx
  have h2 : ¬ y = 43 ∧ ¬ y = 47 := by simpa [isP] using hy
  have hlx : low x = x := by unfold low; rw [if_neg (by omega)]
  have hly : low y ≠ x := by unfold low; split <;> omega
  unfold cost
  rw [if_neg (by omega), if_neg (by rw [hlx]; exact hly)]
theorem told_PS {ns : List Int} (hn : In64 ns) : ToldP (ns.map sgP) (ns.map sgS) (dueOf ns) := by
  refine ⟨(due_zero hn).mp, fun hne => ⟨fun h => hne ((due_zero hn).mpr h), ?_⟩⟩
  have hS : ∀ y ∈ ns.map sgS, isP y = false := fun y hy => by
    obtain ⟨n, hm, rfl⟩ := List.mem_map.mp hy
    exact isP_sgS (hn n hm).1 (hn n hm).2
  refine far_same isP (by rw [List.length_map, List.length_map]) hS (fun x _ hx y hy => cost_P hx (hS y hy)) (fun t ht hp => ?_) ?_
  · rw [List.length_map] at ht
    have g : ∀ f : Int → Nat, (ns.map f).getD t 0 = f ns[t] := fun f => by simp [List.getD_eq_getElem?_getD, ht]
    rw [g] at hp
    rw [g, g]
    have hm := hn ns[t] (List.getElem_mem ht)
    rw [isP_sgP hm.1 hm.2] at hp
    exact (sg_same hm.1 hm.2).mpr (by simpa using hp)
  · unfold cnt dueOf
    rw [List.filter_map, List.length_map]
    have e : ns.filter (isP ∘ sgP) = ns.filter fun f => decide (62 ≤ f) := List.filter_congr fun n hm => isP_sgP (hn n hm).1 (hn n hm).2
    rw [e]
theorem due_len (ns : List Int) : 2 * (((ns.map sgS).length : Int) - ((keptL ns).map sgS).length) = dueOf ns := by
  have := kept_count ns
  unfold dueOf
  rw [List.length_map, List.length_map]
  omega
theorem told_SL {ns : List Int} (h : dueOf ns ≠ 0) : ToldP (ns.map sgS) ((keptL ns).map sgS) (dueOf ns) := by
  have hs : ((keptL ns).map sgS).Sublist (ns.map sgS) := List.Sublist.map _ List.filter_sublist
  have hd := due_len ns
  refine ⟨fun e => ?_, fun _ => ⟨h, (far_sub hs hd).2⟩⟩
  rw [← hd, ← e]; omega
theorem told_LP {ns : List Int} (hn : In64 ns) (h : dueOf ns ≠ 0) : ToldP ((keptL ns).map sgS) (ns.map sgP) (dueOf ns) := by
  have hs : ((keptL ns).map sgS).Sublist (ns.map sgP) := by rw [← kept_same hn]; exact List.Sublist.map _ List.filter_sublist
  have hd : 2 * (((ns.map sgP).length : Int) - ((keptL ns).map sgS).length) = dueOf ns := by rw [← due_len, List.length_map, List.length_map, List.length_map]
  refine ⟨fun e => ?_, fun _ => ⟨h, (far_sub hs hd).1⟩⟩
  rw [← hd, ← e]; omega
end
section
open PySem.Calls
theorem addNews {h₀ h' : Heap} {s : Shared} {L l : Addr} {m m' : Str → Option Value} {news : List (Addr × Obj)} {us : List Value} {c : Nat} (F : Fr h₀ L h' m) (N : News h₀ L h' news) (F0 : Fr h₀ L s.heap m') (e : h'.get? l = some (W.listOf us.toArray c)) (n : s.heap.get? l = none) : News h₀ L h' ((l, W.listOf us.toArray c) :: news) :=
  News.more F N e (fun _ _ q => nomatch q) (kts_none F0.keep n)
theorem dash_has : ∀ c, c < 128 → Txt.contains (Str.ofString "-_") (one c) = (c == 45 || c == 95) := by decide +kernel
section
variable {prog : Program} {w : World} {A : Around} {E : Value → Shared → Prop} {s : Shared} {Q : Value → Shared → Prop}
theorem notInW {c : Nat} {t u : Tok} (hc : c < 128) (h : Q (.bool (!(c == 45 || c == 95))) s) : wpAny (model prog w) A (compareOp .NotIn (.str ⟨#[c]⟩ t) (.str (Str.ofString "-_") u)) Q E s := by
  refine SB.notContains ?_
  have e := dash_has c hc
  unfold one at e
  rw [e]
  exact h
theorem neSame {x : Str} {t u : Tok} (h : Q (.bool false) s) : wpAny (model prog w) A (compareOp .NotEq (.str x t) (.str x u)) Q E s := by
  refine PyProof.Rows.ne_str ?_
  rw [show (x != x) = false from bne_self_eq_false x]
  exact h
theorem eqSame {x : Str} {t u : Tok} (h : Q (.bool true) s) : wpAny (model prog w) A (compareOp .Eq (.str x t) (.str x u)) Q E s := by
  refine P.eq_str ?_
  rw [beq_self_eq_true]
  exact h
end
theorem all_ascii {l : List Nat} (h : ∀ c ∈ l, c < 128) : (txt l).cps.all (· < 128) = true := by
  simp only [txt, List.all_toArray, List.all_eq_true, decide_eq_true_eq]
  exact h
theorem get_txt {l : List Nat} {i c : Nat} (h : (txt l).cps[i]? = some c) : l[i]? = some c := by simpa [txt] using h
theorem kept_ints {ns : List Int} {ys : List Value} (h : IntsAre ys ((ns.take ns.length).filter fun n => decide (n < 62))) : IntsAre ys (keptL ns) := by
  rw [List.take_length] at h; exact h
/-- the signs that are left, as they are taken one by one -/
def keepS (c : Nat) : Bool := !(c == 45 || c == 95)
theorem keep_no {c : Nat} (h : (c == 45 || c == 95) = true) : keepS c = false := by unfold keepS; rw [h]; rfl
theorem keep_yes {c : Nat} (h : (c == 45 || c == 95) = false) : keepS c = true := by unfold keepS; rw [h]; rfl
theorem strs_in {l : List Nat} {i c : Nat} {ys : List Value} {t : Tok} (h : StrsAre ys (((l.take i).filter keepS).map one)) (hc : l[i]? = some c) (hp : keepS c = true) : StrsAre (ys ++ [.str ⟨#[c]⟩ t]) (((l.take (i + 1)).filter keepS).map one) := by
  rw [List.take_add_one, hc, List.filter_append]
  have e : (some c).toList.filter keepS = [c] := by simp [hp]
  rw [e, List.map_append]
  exact kct_snoc h
theorem strs_out {l : List Nat} {i c : Nat} {ys : List Value} (h : StrsAre ys (((l.take i).filter keepS).map one)) (hc : l[i]? = some c) (hp : keepS c = false) : StrsAre ys (((l.take (i + 1)).filter keepS).map one) := by
  rw [List.take_add_one, hc, List.filter_append]
  have e : (some c).toList.filter keepS = [] := by simp [hp]
  rw [e, List.append_nil]
  exact h
end
section
open PySem.Calls
theorem fill14 : hd.heap_39 = hd.heap_39 ∧ Challenge.rw_pa0032_01 = Challenge.rw_pa0032_01 := by
  k_with_none
  w_top off
  k_fill
  exact ⟨rfl, rfl⟩
local macro_rules | `(tactic| walk_at "exec Assign cons ListComp") => `(tactic| k_extra "my assign")
local macro_rules | `(tactic| walk_at "eval ListComp") => `(tactic| k_extra "my ListComp")
local macro_rules | `(tactic| walk_at "call builtin:str.join") => `(tactic| k_extra "my join")
local macro_rules | `(tactic| walk_at "call builtin:len") => `(tactic| k_extra "my len")
local macro_rules | `(tactic| walk_at "compareOp NotIn str str") => `(tactic| k_extra "my notin")
local macro_rules | `(tactic| walk_at "compareOp NotEq str str") => `(tactic| (k_here; k_dflt (refine neSame ?_)))
local macro_rules | `(tactic| walk_at "compareOp Eq str str") => `(tactic| (k_here; k_dflt (refine eqSame ?_)))
theorem r_signsP {w : World} {mean : ExcName → Option Value} {mg mb : Str → Option Value} {A₀ : Around} {base h₀ : Heap} {outer : List Env} {L a l : Addr} {cn : Str} {cs : Scope} {ccd : Value} {cl : List (Str × Addr)} {m : Str → Option Value} {news : List (Addr × Obj)} {s : Shared} {Q E : Value → Shared → Prop} {dp un c : Nat} {gd : Option (List Code)} {us : List Value} {ns : List Int} (tl : Tok)
    (B : Below A₀ base outer h₀) (F : Fr h₀ L s.heap m) (X : (hd.heap_39 w.params).In h₀) (N : News h₀ L s.heap news) (T : Top hd.view_39 LO mean mg mb h₀) (hk : cs.kind = .function) (hdp : dp + 1 < recursionLimit) (hun : un + 8 * 1 < cLine)
    (hm : (l, W.listOf us.toArray c) ∈ news) (hi : IntsAre us ns) (hf : Figs ns)
    (ret : ∀ t h' tk', Fr h₀ L h' m → News h₀ L h' news → Q (.str (txt (ns.map sgP)) t) { s with heap := h', toks := tk' }) :
    wpAny (model PR w) (ktrTop dp un gd cn cs L a ccd cl outer) (call (.ref 154) [.ref l, .str (Str.ofString "+/") tl]) Q E s := by
  rw [show Str.ofString "+/" = txt [43, 47] from by decide +kernel]
  exact r_signs (A := A₀) 43 47 tl B F X N T hk hdp hun hm hi hf ret
theorem r_signsS {w : World} {mean : ExcName → Option Value} {mg mb : Str → Option Value} {A₀ : Around} {base h₀ : Heap} {outer : List Env} {L a l : Addr} {cn : Str} {cs : Scope} {ccd : Value} {cl : List (Str × Addr)} {m : Str → Option Value} {news : List (Addr × Obj)} {s : Shared} {Q E : Value → Shared → Prop} {dp un c : Nat} {gd : Option (List Code)} {us : List Value} {ns : List Int} (tl : Tok)
    (B : Below A₀ base outer h₀) (F : Fr h₀ L s.heap m) (X : (hd.heap_39 w.params).In h₀) (N : News h₀ L s.heap news) (T : Top hd.view_39 LO mean mg mb h₀) (hk : cs.kind = .function) (hdp : dp + 1 < recursionLimit) (hun : un + 8 * 1 < cLine)
    (hm : (l, W.listOf us.toArray c) ∈ news) (hi : IntsAre us ns) (hf : Figs ns)
    (ret : ∀ t h' tk', Fr h₀ L h' m → News h₀ L h' news → Q (.str (txt (ns.map sgS)) t) { s with heap := h', toks := tk' }) :
    wpAny (model PR w) (ktrTop dp un gd cn cs L a ccd cl outer) (call (.ref 154) [.ref l, .str (Str.ofString "-_") tl]) Q E s := by
  rw [show Str.ofString "-_" = txt [45, 95] from by decide +kernel]
  exact r_signs (A := A₀) 45 95 tl B F X N T hk hdp hun hm hi hf ret
theorem law : Challenge.rw_pa0032_01.Holds := by
  refine hd ?_
  k_with "call ref" => k_dflt (refine' use (c_figures _ _ _) ?k1 ?k2 ?k3 ?k4 ?k5 ?kK ?kd ?ku ?kp ?_; (case k1 => k_asm); (case k2 => k_asm); (case k3 => k_asm); (case k4 => k_asm); (case k5 => k_asm); (case kK => first | exact rfl | assumption); (case kd => ktr_room); (case ku => ktr_units); (case kp => first | exact trivial | assumption | k_extra "my pre"); intro r9 h9 tk9 F9 N9 S9 P9; obtain ⟨l9, us9, c9, fs9, rfl, e9, n9, I9, G9, Z9⟩ := P9; (have N10 := addNews (by assumption) N9 (by assumption) e9 n9); clear N9; (have hN := (show In64 fs9 from G9.1)); (have hz := G9.2); (have o9 := oct_size Z9 hz); (have s9P := size_plain hN Z9 hz); (have s9S := size_safe hN Z9 hz); (try dsimp only); (try k_fold))
  k_with "call ref" => k_dflt (refine' use (c_octets l9 us9 fs9) ?k1 ?k2 ?k3 ?k4 ?k5 ?kK ?kd ?ku ?kp ?_; (case k1 => k_asm); (case k2 => k_asm); (case k3 => k_asm); (case k4 => k_asm); (case k5 => k_asm); (case kK => first | exact rfl | assumption); (case kd => ktr_room); (case ku => ktr_units); (case kp => first | exact trivial | assumption | k_extra "my pre"); intro r9 h9 tk9 F9 N9 S9 P9; obtain ⟨t9, rfl⟩ := P9; (try dsimp only); (try k_fold))
  k_with "call ref" => k_dflt (refine' use (c_std _ _) ?k1 ?k2 ?k3 ?k4 ?k5 ?kK ?kd ?ku ?kp ?_; (case k1 => k_asm); (case k2 => k_asm); (case k3 => k_asm); (case k4 => k_asm); (case k5 => k_asm); (case kK => first | exact rfl | assumption); (case kd => ktr_room); (case ku => ktr_units); (case kp => first | exact trivial | assumption | k_extra "my pre"); intro r9 h9 tk9 F9 N9 S9 P9; obtain ⟨t9, rfl⟩ := P9; (try dsimp only); (try k_fold))
  k_with "call ref" => k_dflt (refine' use (c_urlenc _ _) ?k1 ?k2 ?k3 ?k4 ?k5 ?kK ?kd ?ku ?kp ?_; (case k1 => k_asm); (case k2 => k_asm); (case k3 => k_asm); (case k4 => k_asm); (case k5 => k_asm); (case kK => first | exact rfl | assumption); (case kd => ktr_room); (case ku => ktr_units); (case kp => first | exact trivial | assumption | k_extra "my pre"); intro r9 h9 tk9 F9 N9 S9 P9; obtain ⟨t9, rfl⟩ := P9; (try dsimp only); (try k_fold))
  k_with "call ref" => k_dflt (refine' use (c_text _ _) ?k1 ?k2 ?k3 ?k4 ?k5 ?kK ?kd ?ku ?kp ?_; (case k1 => k_asm); (case k2 => k_asm); (case k3 => k_asm); (case k4 => k_asm); (case k5 => k_asm); (case kK => first | exact rfl | assumption); (case kd => ktr_room); (case ku => ktr_units); (case kp => first | exact trivial | assumption | k_extra "my pre"); intro r9 h9 tk9 F9 N9 S9 P9; obtain ⟨t9, q9⟩ := P9; (first | rw [plain_text hN Z9] at q9 | rw [safe_text hN Z9] at q9 | rw [plain_text (kept_in hN) hk4, kept_same hN] at q9); subst q9; (try dsimp only); (try k_fold))
  k_with "my ListComp" => (k_here; k_dflt (refine' compT (z := txt (fs9.map sgS)) (fun i ys => StrsAre ys ((((fs9.map sgS).take i).filter keepS).map one)) rfl ?kF ?kN ?k1 ?k2 ?k3 ?k4 ?k5 ?hi ?k6a ?k6 ?k7 ?lturn ?lfin; (case kF => k_asm); (case kN => k_asm); (case k1 => with_unfolding_all rfl); (case k2 => decide); (case k3 => rfl); (case k4 => decide); (case k5 => rfl); (case hi => (refine' ld ?lf1 ?le1 ?lq1; (case lf1 => k_asm); (case le1 => rfl); (case lq1 => exact ⟨rfl, rfl⟩))); (case k6a => exact all_ascii (ascS hN)); (case k6 => (rw [PySem.sizeLine_eq]; show (txt _).length ≤ _; rw [len_txt, List.length_map]; omega)); (case k7 => exact .nil); (case' lturn => (intro s2 i c u ys I oI C oC D m2 h tk E' hc9 hR9 hC9 hx9 F N; have hc8 : (fs9.map sgS)[i]? = some c := get_txt hc9; have hc7 : c < 128 := ascS hN c (List.mem_of_getElem? hc8))); (case' lfin => (intro D ys h tk hR9 F N; have hS9 : StrsAre ys (((keptL fs9).map sgS).map one) := by (rw [show (txt (fs9.map sgS)).cps.size = (fs9.map sgS).length from len_txt _, List.take_length] at hR9; rw [← left_text hN]; exact hR9)))))
  k_with "my join" => (k_dflt (refine' join9 (l := (keptL fs9).map sgS) ?N ?m ?i ?w ?_; (case N => k_asm); (case m => k_mem); (case i => exact hS9); (case w => (rw [List.length_map]; have := kept_len fs9; omega)); k_whole; intro _ _))
  k_with "my notin" => (k_here; k_dflt (refine' notInW hc7 ?_; k_whole))
  k_with "call ref" => k_dflt (refine' r_signsS (l := l9) (us := us9) (ns := fs9) (c := c9) _ ?k1 ?k2 ?k3 ?k4 ?k5 ?kK ?kd ?ku ?km I9 G9 ?_; (case k1 => k_asm); (case k2 => k_asm); (case k3 => k_asm); (case k4 => k_asm); (case k5 => k_asm); (case kK => first | exact rfl | assumption); (case kd => ktr_room); (case ku => ktr_units); (case km => k_mem); intro t9 h9 tk9 F9 N9; (try dsimp only); (try k_fold))
  k_with "call ref" => k_dflt (refine' r_signsP (l := l9) (us := us9) (ns := fs9) (c := c9) _ ?k1 ?k2 ?k3 ?k4 ?k5 ?kK ?kd ?ku ?km I9 G9 ?_; (case k1 => k_asm); (case k2 => k_asm); (case k3 => k_asm); (case k4 => k_asm); (case k5 => k_asm); (case kK => first | exact rfl | assumption); (case kd => ktr_room); (case ku => ktr_units); (case km => k_mem); intro t9 h9 tk9 F9 N9; (try dsimp only); (try k_fold))
  k_with "call ref" => k_dflt (refine' use (c_far _ l9 _ us9 _ fs9 (fs9.map sgP) (fs9.map sgS) ((keptL fs9).map sgS) _ _ _) ?k1 ?k2 ?k3 ?k4 ?k5 ?kK ?kd ?ku ?kp ?_; (case k1 => k_asm); (case k2 => k_asm); (case k3 => k_asm); (case k4 => k_asm); (case k5 => k_asm); (case kK => first | exact rfl | assumption); (case kd => ktr_room); (case ku => ktr_units); (case kp => first | exact trivial | assumption | k_extra "my pre"); intro r9 h9 tk9 F9 N9 S9 P9; subst P9; (try dsimp only); (try k_fold))
  k_with "my pre" => first | exact ⟨by is_list, by assumption, by omega⟩ | exact ⟨by is_list, I9, G9, Z9⟩ | exact o9 | exact s9P | exact s9S | exact ⟨by is_list, by assumption, by omega, by is_list, I9, G9.2, okP hN hz, okS hN hz, okL hN hz, told_PS hN, fun h => ⟨told_SL h, told_LP hN h⟩⟩
  k_with "call ref" => k_dflt (refine' r_strict (w := _) (A := callerA) (x := txt (fs9.map sgS)) _ (asciiS hN hz) (no61S hN) ?bad ?k1 ?k2 ?k3 ?k4 ?k5 ?XB ?TB ?D ?T0 ?kd ?ku ?retstrict; (case bad => k_extra "my bad"); (case k1 => k_asm); (case k2 => k_asm); (case k3 => k_asm); (case k4 => k_asm); (case k5 => k_asm); (case XB => assumption); (case TB => assumption); (case D => assumption); (case T0 => first | assumption | exact KtsTurn.refl); (case kd => ktr_room); (case ku => ktr_units); (case' retstrict => (intro t9 h9 tk9 g9 T9 F9 N9 B9 X9 Tp9 D9; (try dsimp only); (try k_fold))))
  k_with "call ref" => k_dflt (refine' r_loose (w := _) (A := callerA) (x := txt (fs9.map sgS)) _ (asciiS hN hz) (no61S hN) ?bad ?k1 ?k2 ?k3 ?k4 ?k5 ?XB ?TB ?D ?T0 ?kd ?ku ?retloose; (case bad => k_extra "my bad"); (case k1 => k_asm); (case k2 => k_asm); (case k3 => k_asm); (case k4 => k_asm); (case k5 => k_asm); (case XB => assumption); (case TB => assumption); (case D => assumption); (case T0 => first | assumption | exact KtsTurn.refl); (case kd => ktr_room); (case ku => ktr_units); (case' retloose => (intro t9 h9 tk9 g9 T9 F9 N9 B9 X9 Tp9 D9; (try dsimp only); (try k_fold))))
  k_with "my bad" => first | exact badS hN (by omega) | (rw [figs_safe hN]; simp only [Int.fmod_eq_emod_of_nonneg _ (show (0 : Int) ≤ 4 by decide)] at *; omega)
  k_with "call ref" => k_dflt (refine' use (c_urldec _ _) ?k1 ?k2 ?k3 ?k4 ?k5 ?kK ?kd ?ku ?kp ?_; (case k1 => k_asm); (case k2 => k_asm); (case k3 => k_asm); (case k4 => k_asm); (case k5 => k_asm); (case kK => first | exact rfl | assumption); (case kd => ktr_room); (case ku => ktr_units); (case kp => first | exact trivial | assumption | k_extra "my pre"); intro r9 h9 tk9 F9 N9 S9 P9; obtain ⟨t9, q9⟩ := P9; (first | rw [transS hN, figs_plain hN] at q9 | rw [transP hN, figs_plain hN] at q9); subst q9; (try dsimp only); (try k_fold))
  k_with "call ref" => k_dflt (refine' use (c_strict_ok (txt (fs9.map sgP)) _) ?k1 ?k2 ?k3 ?k4 ?k5 ?kK ?kd ?ku ?kp ?_; (case k1 => k_asm); (case k2 => k_asm); (case k3 => k_asm); (case k4 => k_asm); (case k5 => k_asm); (case kK => first | exact rfl | assumption); (case kd => ktr_room); (case ku => ktr_units); (case kp => first | exact trivial | assumption | k_extra "my pre"); intro r9 h9 tk9 F9 N9 S9 P9; obtain ⟨t9, q9⟩ := P9; rw [figs_plain hN] at q9; subst q9; (try dsimp only); (try k_fold))
  k_with "call ref" => k_dflt (refine' use (c_loose_ok (txt (fs9.map sgS)) _) ?k1 ?k2 ?k3 ?k4 ?k5 ?kK ?kd ?ku ?kp ?_; (case k1 => k_asm); (case k2 => k_asm); (case k3 => k_asm); (case k4 => k_asm); (case k5 => k_asm); (case kK => first | exact rfl | assumption); (case kd => ktr_room); (case ku => ktr_units); (case kp => first | exact trivial | assumption | k_extra "my pre"); intro r9 h9 tk9 F9 N9 S9 P9; obtain ⟨t9, q9⟩ := P9; rw [figs_safe hN] at q9; subst q9; (have hk4 : (keptL fs9).length % 4 = 0 := by first | omega | (simp only [Int.fmod_eq_emod_of_nonneg _ (show (0 : Int) ≤ 4 by decide)] at *; omega)); (try dsimp only); (try k_fold))
  k_with "call ref" => k_dflt (refine' use (c_same_bb _ _ _ _) ?k1 ?k2 ?k3 ?k4 ?k5 ?kK ?kd ?ku ?kp ?_; (case k1 => k_asm); (case k2 => k_asm); (case k3 => k_asm); (case k4 => k_asm); (case k5 => k_asm); (case kK => first | exact rfl | assumption); (case kd => ktr_room); (case ku => ktr_units); (case kp => first | exact trivial | assumption | k_extra "my pre"); intro r9 h9 tk9 F9 N9 S9 P9; (first | rw [beq_self_eq_true] at P9 | rw [kept_all (by omega), beq_self_eq_true] at P9); subst P9; (try dsimp only); (try k_fold))
  k_with "call ref" => k_dflt (refine' use (c_octets D8 ys8 (keptL fs9)) ?k1 ?k2 ?k3 ?k4 ?k5 ?kK ?kd ?ku ?kp ?_; (case k1 => k_asm); (case k2 => k_asm); (case k3 => k_asm); (case k4 => k_asm); (case k5 => k_asm); (case kK => first | exact rfl | assumption); (case kd => ktr_room); (case ku => ktr_units); (case kp => first | exact trivial | assumption | k_extra "my pre"); intro r9 h9 tk9 F9 N9 S9 P9; obtain ⟨t9, rfl⟩ := P9; (try dsimp only); (try k_fold))
  k_with "my pre" => first | exact ⟨by is_list, by assumption, by omega⟩ | exact ⟨by is_list, I9, G9, Z9⟩ | exact o9 | exact s9P | exact s9S | exact ⟨by is_list, by assumption, by omega, by is_list, I9, G9.2, okP hN hz, okS hN hz, okL hN hz, told_PS hN, fun h => ⟨told_SL h, told_LP hN h⟩⟩ | exact ⟨asciiS hN hz, by rw [transS hN]; exact looseP hN Z9⟩ | exact ⟨asciiP hN hz, by rw [transP hN]; exact looseP hN Z9⟩ | exact ⟨asciiP hN hz, strictP hN Z9⟩ | exact ⟨asciiS hN hz, no61S hN, by rw [figs_safe hN]; simp only [Int.fmod_eq_emod_of_nonneg _ (show (0 : Int) ≤ 4 by decide)] at *; omega⟩ | exact ⟨by is_list, I8, kept_octs hN hz, hk4⟩ | exact oct_size hk4 (Nat.le_trans (kept_len fs9) hz) | exact size_plain (kept_in hN) hk4 (Nat.le_trans (kept_len fs9) hz)
  k_with "my assign" => (k_here; k_dflt (refine' compLTA (l := l9) (c := c9) (us := us9) (ns := fs9) (fun i ys => IntsAre ys ((fs9.take i).filter fun n => decide (n < 62))) ?xS I9 rfl ?xF ?xN ?x0 ?xw ?x1 ?x2 ?x3 ?x4 ?x5 ?x8 ?x9 ?xhi ?x6 ?x7 ?xturn ?xfin; (case xF => k_asm); (case xN => k_asm); (case xS => k_mem); (case x0 => rfl); (case xw => with_unfolding_all rfl); (case x1 => with_unfolding_all rfl); (case x2 => decide); (case x3 => rfl); (case x4 => decide); (case x5 => rfl); (case x8 => rfl); (case x9 => rfl); (case xhi => (refine' ld ?lf2 ?le2 ?lq2; (case lf2 => k_asm); (case le2 => rfl); (case lq2 => exact ⟨rfl, rfl⟩))); (case x6 => (rw [PySem.sizeLine_eq]; omega)); (case x7 => exact .nil)); (case' xfin => (intro D8 ys8 h tk hR F N; have I8 := kept_ints hR; clear hR; have l8 : ys8.length = (keptL fs9).length := I8.length; have k8 := kept_len fs9)))
  k_with "my len" => (k_here; (with_reducible show wpAny _ _ (call _ [Value.ref D8]) _ _ _); k_dflt (first | (refine' lenN ?N ?m l8 ?z ?_; (case N => k_asm); (case m => k_mem); (case z => omega); k_whole; intro _ _)))
  k_go0
  all_goals (try k_fold)
  k_steps
  · exact Pend.mk (fun _ _ e => e) (ints_in (by assumption) (by assumption) (decide_eq_true (by omega)))
  · exact Pend.mk (fun _ _ e => e) (ints_out (by assumption) (by assumption) (decide_eq_false (by omega)))
  · exact Pend.mk (fun _ _ e => e) (strs_out hR9 hc8 (keep_no (by assumption)))
  · exact Pend.mk (fun _ _ e => e) (strs_in hR9 hc8 (keep_yes (by assumption)))
end
end Mine
set_option maxRecDepth 100000 in
set_option maxHeartbeats 8000000 in
theorem PySem.Challenge.cw_pa0032_01_holds : PySem.Challenge.rw_pa0032_01.Holds := by
  exact Mine.law
