import PyProof.Rows.All
import Wide.All
import OpenK.AllK
import Wide.FinOn
import PySem.Challenge.RW_eg5009_01
set_option Elab.async false
set_option maxRecDepth 100000
section
open PySem PySem.W PyProof.Rows
namespace Mine
set_option maxRecDepth 100000 in
set_option maxHeartbeats 8000000 in
open_top hd for PySem.Challenge.rw_eg5009_01
end Mine
end
section
open PySem PySem.W PyProof.Rows PySem.Calls
namespace Mine
abbrev prg : Program := PySem.Challenge.rw_eg5009_01.row.prog
abbrev vTok := PySem.Tok

/-- what a call of the text's def f gives: a value and objects laid on the ledger -/
abbrev Ct (w : World) (p : Program) (loose : List Str) (mean : ExcName → Option Value) (mg mb : Str → Option Value) (f : Addr) (dep : Nat) (vs : List Value) (Ret : Value → List (Addr × Obj) → Prop) : Prop :=
  ∀ (dp un : Nat) (gd : Option (List Code)) (cn : Str) (cs : Scope) (a : Addr) (ccd : Value) (cl : List (Str × Addr)) (outer : List Env) (A₀ : Around) (base h₀ : Heap) (L : Addr) (m : Str → Option Value) (news : List (Addr × Obj)) (s : Shared) (Q E : Value → Shared → Prop),
    Below A₀ base outer h₀ → Fr h₀ L s.heap m → (hd.heap_39 w.params).In h₀ → News h₀ L s.heap news → Top p loose mean mg mb h₀ → cs.kind = .function →
    dp + dep < recursionLimit → un + 100 * dep < cLine →
    (∀ v ex h' tk', Ret v ex → (∀ q ∈ ex, LCg.Off1 q.1 news) → Fr h₀ L h' m → News h₀ L h' (ex ++ news) → Q v { s with heap := h', toks := tk' }) →
    wpAny (model prg w) (ktrTop dp un gd cn cs L a ccd cl outer) (call (.ref f) vs) Q E s

/-- the class C tells v at the name -/
def HasAttr (K : Frag) (C : Addr) (name : Str) (v : Value) : Prop :=
  ∀ (prog : Program) (w : World) (A : Around) (E : Value → Shared → Prop) (s : Shared) (Q : Value → Shared → Prop) (expr : Bool), K.In s.heap → Q v { s with toks := s.toks + 1 } → wpAny (model prog w) A (getAttr (.ref C) name expr) Q E s

theorem hasAttr_of {K : Frag} {C : Addr} {name : Str} {v : Value} (hr : readsIn K C (.type "type") = true) (e : findCls K (.ref C) (.type "type") name = some (.val v)) (hv : handedIn v = true) : HasAttr K C name v :=
  fun _ _ _ _ _ _ _ X h => cls_value X hr e hv h

theorem my_attr {prog : Program} {w : World} {A : Around} {E : Value → Shared → Prop} {s : Shared} {K : Frag} {C L : Addr} {h₀ : Heap} {m : Str → Option Value} {name : Str} {v : Value} {expr : Bool} {Q : Value → Shared → Prop}
    (F : Fr h₀ L s.heap m) (X₀ : K.In h₀) (D : HasAttr K C name v) (h : Q v { s with toks := s.toks + 1 }) :
    wpAny (model prog w) A (getAttr (.ref C) name expr) Q E s := D _ _ _ _ _ _ _ (X₀.keeps F.keep) h

/-- a class's attribute that holds a built-in type -/
theorem tga_type {prog : Program} {w : World} {A : Around} {E : Value → Shared → Prop} {s : Shared} {K : Frag} {C : Addr} {name : Str} {n : String} {tk : PySem.Tok} {Q : Fin → Shared → Prop} (X : K.In s.heap) (ho : Looks (model prog w) s.heap (opaqueClassAbove (.ref C)) none)
    (ht : Looks (model prog w) s.heap (typeOf (.ref C)) (.type "type")) (h1 : findIn K (.type "type") name = some none) (h4 : findIn K (.ref C) name = some (some (.type n))) (h5 : typeOf (.type n) = pure (.type "type")) (h6 : specialOf (.type n) "__get__" = pure none)
    (h : Q (.done (.ret (.type n))) s) : wpAny (model prog w) A (Builtin.«type.__getattribute__» ⟨[.ref C, .str name tk], []⟩) Q E s := by
  obtain ⟨hh, g, d, t, os⟩ := s
  dsimp only at X ho ht
  have L1 := looks_findIn (M := model prog w) X h1
  unfold Builtin.«type.__getattribute__»
  refine wpAny_bind (wpAny_pure (wpAny_bind (ho.at (wpAny_bind (ht.at (wpAny_bind (L1.at ?_)))))))
  refine wpAny_bind (wpAny_pure ?_)
  refine wpAny_bind ((looks_findIn X h4).at ?_)
  dsimp only
  rw [if_neg (show ¬ (Builtin.heldUnderItsOwnName name (.type n) = true) from Bool.false_ne_true)]
  refine wpAny_bind (wpAny_of_eq h5 ?_)
  rw [if_neg (by decide)]
  refine wpAny_bind (wpAny_of_eq h6 ?_)
  dsimp only
  rw [handedOut_of (v := .type n) rfl]
  exact wpAny_bind (wpAny_pure (wpAny_pure h))
theorem hasAttr_type {K : Frag} {C : Addr} {name : Str} {n : String} (hr : readsIn K C (.type "type") = true) (h1 : findIn K (.type "type") name = some none) (h4 : findIn K (.ref C) name = some (some (.type n)))
    (h5 : typeOf (.type n) = pure (.type "type")) (h6 : specialOf (.type n) "__get__" = pure none) : HasAttr K C name (.type n) := by
  intro prog w A E s Q expr X h
  simp only [readsIn, Bool.and_eq_true, beq_iff_eq] at hr
  obtain ⟨⟨⟨⟨a, b⟩, c'⟩, d⟩, f⟩ := hr
  obtain ⟨hk, d⟩ := Option.isSome_iff_exists.mp d
  have ho := looks_opaque (M := model prog w) (C := C) X a
  have ht := looks_typeIn (M := model prog w) X b
  have hb := looks_hook (M := model prog w) X d
  refine wpAny_bind (wpAny_mkText (wpAny_holding (wpAny_bind (ht _ _ _ _ (fun _ _ e => e) (wpAny_bind (looks_findIn X c' _ _ _ _ (fun _ _ e => e) ?_))))))
  dsimp only
  rw [show (onTheHeap (.type "type") && Value.builtin "type.__getattribute__" == Value.builtin "object.__getattribute__") = false from by rw [show (Value.builtin "type.__getattribute__" == Value.builtin "object.__getattribute__") = false from by decide +kernel, Bool.and_false], if_neg (by decide)]
  refine wpAny_bind (hb _ _ _ _ (fun _ _ e => e) (wpAny_bind (wpAny_attempt (wpAny_holding ?_))))
  unfold callGetattribute
  rw [show (expr && onTheHeap (Value.builtin "type.__getattribute__")) = false from Bool.and_false _, if_neg (by decide)]
  unfold boundAndCalled
  rw [KF.slot_tga.bind]
  refine wpAny_bind (wpAny_pure ?_)
  show wpAny _ _ (call (.builtin "type.__getattribute__") [.ref C, .str name s.toks]) _ _ _
  refine wpAny_call ?_
  refine codeAny_call_builtin KF.slot_tga.plain KF.entry_tga ?_
  refine @check_slot (model prog w) _ _ { s with toks := s.toks + 1 } "type.__getattribute__" "type" "__getattribute__" (.ref C) [.str name s.toks] [] _ (by decide +kernel) (by decide +kernel) (ht.andThen (looks_subIn X f)) (KF.args_tga (.ref C) (.str name s.toks)) ?_
  refine tga_type (s := { s with toks := s.toks + 1 }) X ho ht h1 h4 h5 h6 ?_
  show wpAny _ _ (handedOut (.type n)) _ _ _
  rw [handedOut_of (v := .type n) rfl]
  exact wpAny_pure h
theorem typeOf_int : typeOf (.type "int") = pure (.type "type") := by kernel_rfl
theorem typeOf_bool : typeOf (.type "bool") = pure (.type "type") := by kernel_rfl
theorem noget_type : typeLookup (.type "type") "__get__" = pure none := by rw [typeLookup_type, builtinLookup_eq_fast]; kernel_rfl
theorem noget_int : specialOf (.type "int") "__get__" = pure none := by
  unfold specialOf; rw [typeOf_int]; exact noget_type
theorem noget_bool : specialOf (.type "bool") "__get__" = pure none := by
  unfold specialOf; rw [typeOf_bool]; exact noget_type
end Mine
namespace Mine
section
variable {prog : Program} {w : World} {A : Around} {E : Value → Shared → Prop} {s : Shared} {Q : Value → Shared → Prop}
theorem gives_le_bool_int (a : Bool) (b : Int) (u : vTok) : Gives (Builtin.«int.__le__» ⟨[.bool a, .int b u], []⟩) (.val (Value.bool (decide ((if a = true then (1 : Int) else 0) ≤ b)))) :=
  .of_wp fun M A E s Q h => by obtain ⟨hp, g, d, tk, os⟩ := s; wp_walk; exact ⟨_, rfl, h⟩
theorem gives_ge_bool_int (a : Bool) (b : Int) (u : vTok) : Gives (Builtin.«int.__ge__» ⟨[.bool a, .int b u], []⟩) (.val (Value.bool (decide ((if a = true then (1 : Int) else 0) ≥ b)))) :=
  .of_wp fun M A E s Q h => by obtain ⟨hp, g, d, tk, os⟩ := s; wp_walk; exact ⟨_, rfl, h⟩
theorem le_bool_int {a : Bool} {b : Int} {u : vTok} (h : Q (.bool (decide ((if a = true then (1 : Int) else 0) ≤ b))) s) : wpAny (model prog w) A (compareOp .LtE (.bool a) (.int b u)) Q E s := by
  show wpAny _ _ (richCompare .LtE (.bool a) (.int b u)) Q E s
  exact SeqAt.rc_left_or rfl (typeIs_int s b u) (by decide) F.sub_int_bool F.slot_bool_le
    (call_gives F.slot_bool_le rfl F.entry_int_le (F.args_int_le_2 _ _) (gives_le_bool_int a b u) ⟨nofun, h⟩) (.inl rfl)
theorem le_int_bool {a : Int} {t : vTok} {b : Bool} (h : Q (.bool (decide (a ≤ if b = true then (1 : Int) else 0))) s) : wpAny (model prog w) A (compareOp .LtE (.int a t) (.bool b)) Q E s := by
  show wpAny _ _ (richCompare .LtE (.int a t) (.bool b)) Q E s
  exact SeqAt.rc_sub_first_or (typeIs_int s a t) rfl (by decide) F.sub_bool_int F.slot_bool_ge_refl
    (call_gives F.slot_bool_ge_refl rfl F.entry_int_ge (F.args_int_ge_2 _ _) (gives_ge_bool_int b a t) ⟨nofun, h⟩) (.inl rfl)
end
end Mine
namespace Mine
section
variable {prog : Program} {w : World} {A₀ A : Around} {s : Shared} {base h₀ : Heap} {L : Addr} {m : Str → Option Value} {news : List (Addr × Obj)} {K : Frag} {p : Program} {loose : List Str} {mean : ExcName → Option Value} {mg mb : Str → Option Value}
    {R : Result → Shared → Prop} {name qual : Str} {params : Arguments} {body : List Stmt} {scope : Scope} {dV kV doc pm cdv ct oc : Value} {an od : Option Addr} {osl : Array (Option Value)} {f : Addr} {args : Args} {binds : List (Str × Value)} {env : Env}

/-- entering a def that catches, from a frame with cells that stands right above the caller -/
theorem enter_catching (B : Below A₀ base [] h₀) (F : Fr h₀ L s.heap m) (X₀ : K.In h₀) (N : News h₀ L s.heap news) (T : Top p loose mean mg mb h₀) (hA : A.frames = some [env]) (hf : env.frame = some L) (hke : env.scope.kind = .function)
    (ho : K.lookup f = some ⟨oc, od, .func (fnOf name qual params body scope dV kV doc pm an cdv ct), osl⟩) (hcd : codeIn K cdv qual = true) (hroom : A.depth < recursionLimit)
    (hbind : BindsTo s (fnOf name qual params body scope dV kV doc pm an cdv ct) args binds) (hloc : ∀ y ∈ binds, scope.names.lookup y.1 = some .local)
    (h : ∀ g L' h₁, Fr h₀ L g m → Fr g L' h₁ (fun y => binds.reverse.lookup y) → News g L' h₁ news → Below A base [env] g → K.In g → Top p loose mean mg mb g → KtsDicts ([env].filterMap (·.frame)) g →
      wpAny (model prog w) (A.deeper (envOf qual scope L' f cdv)) (execs body (envOf qual scope L' f cdv))
        (fun fl s' => LeaveS0 ([env].filterMap (·.frame)) h₀ L m g R (match fl with | .ret v => v | _ => .none) s')
        (fun e s' => wpAny (model prog w) (A.deeper (envOf qual scope L' f cdv)) (leaving (envOf qual scope L' f cdv) e) (fun _ s'' => R (.error e) s'') (fun e' s'' => R (.error e') s'') s')
        { s with heap := h₁, toks := s.toks + binds.length })
    (hco : scope.isCoroutine = false) (hgen : scope.isGenerator = false) (hk : scope.kind = .function)
    (hcell : ∀ x ∈ scope.names, x.2 ≠ .cell) : codeAny (model prog w) A (.call (.ref f) args) R s := by
  have X := X₀.keeps F.keep
  have mem : ∀ b, b ∈ [env].filterMap (·.frame) → b = L := fun b hb => by
    obtain ⟨e, he, hfe⟩ := List.mem_filterMap.mp hb
    rw [List.mem_singleton.mp he, hf] at hfe
    exact (Option.some.inj hfe).symm
  obtain ⟨FG, BG, st, _⟩ := groundX (R := R) B F N hA hf hke
  refine codeAny_call_def (fd := fnOf name qual params body scope dV kV doc pm an cdv ct) (body := body) (binds := binds) hroom (X _ _ ho) rfl (T.nolimit.keeps F.keep) (codeRec_of X hcd) rfl hbind hcell hloc (fun h₁ hns hk₁ => ?_) hco hgen hk
  obtain ⟨oL, es, ep, hLg, hLd, hLk, hLf⟩ := FG.ns
  refine wpAny_mono (h _ s.heap.objs.size h₁ FG ⟨hns, fun b o e => hk₁ b o (of_hideAll _ e), Nat.le_of_eq (hideAll_size _ _)⟩
    (fun q hq => ⟨hk₁ _ _ (N q hq).1, Nat.ne_of_lt (Heap.lt_size (N q hq).1), hideAll_none _ (List.mem_map_of_mem hq)⟩) BG (X₀.keeps st) (T.keeps st)
    (fun b hb => by rw [mem b hb]; exact ⟨oL, es, ep, hLg, hLd⟩)) (fun fl s' hl => ?_) fun _ _ y => y
  obtain ⟨g', L', m', news', T', F', N', k⟩ := hl
  have nL₀ : h₀.get? L = none := kts_self F
  obtain ⟨sl, hs⟩ := T'.up hLg
  refine k ⟨⟨_, es, ep, F'.keep _ _ hs, hLd, hLk, hLf⟩, fun b o e => F'.keep b o (T'.other b o (st b o e) fun q => by rw [mem b q, nL₀] at e; cases e), F.above⟩ fun q hq => ⟨(N' q hq).1, fun z => ?_, ?_⟩
  · have := (N' q hq).2.2; rw [z, hs] at this; cases this
  · cases y : h₀.get? q.1 with
    | none => rfl
    | some o =>
      obtain ⟨sl', hs'⟩ := T'.up (st _ _ y)
      have := (N' q hq).2.2
      rw [hs'] at this
      cases this
end
/-- as Ct, from the law's own frame -/
abbrev Ct0 (w : World) (p : Program) (loose : List Str) (mean : ExcName → Option Value) (mg mb : Str → Option Value) (f : Addr) (dep : Nat) (vs : List Value) (Ret : Value → List (Addr × Obj) → Prop) : Prop :=
  ∀ (dp un : Nat) (gd : Option (List Code)) (cn : Str) (cs : Scope) (a : Addr) (ccd : Value) (cl : List (Str × Addr)) (A₀ : Around) (h₀ : Heap) (L : Addr) (m : Str → Option Value) (news : List (Addr × Obj)) (s : Shared) (Q E : Value → Shared → Prop),
    Below A₀ h₀ [] h₀ → Fr h₀ L s.heap m → (hd.heap_39 w.params).In h₀ → News h₀ L s.heap news → Top p loose mean mg mb h₀ → cs.kind = .function →
    dp + dep < recursionLimit → un + 100 * dep < cLine →
    (∀ v ex h' tk', Ret v ex → (∀ q ∈ ex, LCg.Off1 q.1 news) → Fr h₀ L h' m → News h₀ L h' (ex ++ news) → Q v { s with heap := h', toks := tk' }) →
    wpAny (model prg w) (ktrTop dp un gd cn cs L a ccd cl []) (call (.ref f) vs) Q E s
end Mine

namespace Mine
/-- the kinds' rows: width, low, high, name -/
def rowTab : List (Int × Int × Int × Str) := [(1, 0, 1, "bool"), (1, 0, 255, "uint8"), (2, 0, 65535, "uint16"), (4, 0, 4294967295, "uint32"), (8, 0, 18446744073709551615, "uint64"), (1, -128, 127, "int8"), (2, -32768, 32767, "int16"), (4, -2147483648, 2147483647, "int32"), (8, -9223372036854775808, 9223372036854775807, "int64"), (4, -2147483648, 2147483647, "int32"), (4, 0, 4294967295, "uint32"), (2, 0, 65535, "uint16")]
def kindTab : List Nat := [61, 75, 89, 103, 117, 131, 145, 159, 173, 187, 199, 211]
abbrev tupObj (vs : List Value) (n : Nat) : Obj := { cls := .type "tuple", data := .seq vs.toArray n }
theorem twelve {k : Int} {a : Int × Int × Int × Str} (h0 : 0 ≤ k) (h : rowTab[k.toNat]? = some a) : k = 0 ∨ k = 1 ∨ k = 2 ∨ k = 3 ∨ k = 4 ∨ k = 5 ∨ k = 6 ∨ k = 7 ∨ k = 8 ∨ k = 9 ∨ k = 10 ∨ k = 11 := by
  have := (List.getElem?_eq_some_iff.mp h).1
  have e : rowTab.length = 12 := rfl
  rw [e] at this
  omega
theorem item_sym {prog : Program} {w : World} {A : Around} {E : Value → Shared → Prop} {s : Shared} {h₀ : Heap} {L l : Addr} {news : List (Addr × Obj)} {value slice : PySem.Expr} {vs : List Value} {n : Nat} {k : Int} {u : vTok} {v : Value} {Q : Value → Shared → Prop}
    (N : News h₀ L s.heap news) (hm : (l, listOf vs.toArray n) ∈ news) (h0 : 0 ≤ k) (hhi : k < 2 ^ 63) (hx : vs[k.toNat]? = some v) (h : Q v s)
    (hs : subscripted slice false (.ref l) (.int k u) = operate [.ref l, .int k u] (getItem (.ref l) (.int k u)) := by with_unfolding_all rfl) :
    wpAny (model prog w) A (subscriptTail value slice (.ref l) (.int k u)) Q E s :=
  have hl : s.heap.IsList l vs.toArray := ⟨_, (N _ hm).1, rfl, n, rfl⟩
  tail_any hl.typeIs slot_list_getitem.lookup (wpAny_getItem_list hl h0 hhi (by simpa using hx) h) hs
end Mine

namespace Mine
theorem off1_of {d : Addr} {l : List (Addr × Obj)} : (∀ p ∈ l, p.1 < d) → LCg.Off1 d l := by
  induction l with
  | nil => intro _; trivial
  | cons a r ih => intro h; exact ⟨Nat.ne_of_lt (h a (.head _)), ih fun p hp => h p (.tail _ hp)⟩
theorem ct_use {w : World} {p : Program} {loose : List Str} {mean : ExcName → Option Value} {mg mb : Str → Option Value} {f : Addr} {dep : Nat} {vs : List Value} {Ret : Value → List (Addr × Obj) → Prop} (C : Ct w p loose mean mg mb f dep vs Ret)
    {dp un : Nat} {gd : Option (List Code)} {cn : Str} {cs : Scope} {a : Addr} {ccd : Value} {cl : List (Str × Addr)} {outer : List Env} {A₀ : Around} {base h₀ : Heap} {L : Addr} {m : Str → Option Value} {news : List (Addr × Obj)} {s : Shared} {Q E : Value → Shared → Prop}
    (B : Below A₀ base outer h₀) (F : Fr h₀ L s.heap m) (X : (hd.heap_39 w.params).In h₀) (N : News h₀ L s.heap news) (T : Top p loose mean mg mb h₀) (hk : cs.kind = .function) (hd : dp + dep < recursionLimit) (hu : un + 100 * dep < cLine)
    (h : ∀ v ex h' tk', Ret v ex → (∀ q ∈ ex, LCg.Off1 q.1 news) → Fr h₀ L h' m → News h₀ L h' (ex ++ news) → Q v { s with heap := h', toks := tk' }) :
    wpAny (model prg w) (ktrTop dp un gd cn cs L a ccd cl outer) (call (.ref f) vs) Q E s := C dp un gd cn cs a ccd cl outer A₀ base h₀ L m news s Q E B F X N T hk hd hu h
theorem ct0_use {w : World} {p : Program} {loose : List Str} {mean : ExcName → Option Value} {mg mb : Str → Option Value} {f : Addr} {dep : Nat} {vs : List Value} {Ret : Value → List (Addr × Obj) → Prop} (C : Ct0 w p loose mean mg mb f dep vs Ret)
    {dp un : Nat} {gd : Option (List Code)} {cn : Str} {cs : Scope} {a : Addr} {ccd : Value} {cl : List (Str × Addr)} {A₀ : Around} {h₀ : Heap} {L : Addr} {m : Str → Option Value} {news : List (Addr × Obj)} {s : Shared} {Q E : Value → Shared → Prop}
    (B : Below A₀ h₀ [] h₀) (F : Fr h₀ L s.heap m) (X : (hd.heap_39 w.params).In h₀) (N : News h₀ L s.heap news) (T : Top p loose mean mg mb h₀) (hk : cs.kind = .function) (hd : dp + dep < recursionLimit) (hu : un + 100 * dep < cLine)
    (h : ∀ v ex h' tk', Ret v ex → (∀ q ∈ ex, LCg.Off1 q.1 news) → Fr h₀ L h' m → News h₀ L h' (ex ++ news) → Q v { s with heap := h', toks := tk' }) :
    wpAny (model prg w) (ktrTop dp un gd cn cs L a ccd cl []) (call (.ref f) vs) Q E s := C dp un gd cn cs a ccd cl A₀ h₀ L m news s Q E B F X N T hk hd hu h
end Mine
end
section
open PySem PySem.W PyProof.Rows PySem.Calls
namespace Mine
local macro_rules | `(tactic| walk_at "getAttr ref") => `(tactic| (k_here; k_dflt (refine' my_attr ?k1 ?k2 ?k3 ?_; (case k1 => k_asm); (case k2 => k_asm); (case k3 => assumption); k_whole)))
local macro_rules | `(tactic| walk_at "compareOp LtE bool int") => `(tactic| with_reducible refine le_bool_int ?_)
local macro_rules | `(tactic| walk_at "compareOp LtE int bool") => `(tactic| with_reducible refine le_int_bool ?_)

local macro_rules | `(tactic| k_room) => `(tactic| ktr_room)
local macro_rules | `(tactic| k_units) => `(tactic| ktr_units)

theorem bool_is {b : Bool} {p : Prop} [Decidable p] (h : b = true ↔ p) : Value.bool b = Value.bool (decide p) := by
  rw [show b = decide p from by rw [Bool.eq_iff_iff, decide_eq_true_eq]; exact h]
theorem text_len {x : Int} (hx : x.natAbs.log2 < 1920) : (Str.ofString (toString x)).length ≤ 1921 := by
  rw [PySem.ofString_length]; exact int_text_length_le (k := 1920) (by decide) hx
local macro_rules | `(tactic| walk_at "call type:str") => `(tactic| ((with_reducible show wpAny _ _ (call (Value.type "str") [Value.int _ _]) _ _ _); refine P.str_of_int (by assumption) ?_))

set_option maxHeartbeats 8000000 in
theorem valid_int (w : World) (p : Program) (loose : List Str) (mean : ExcName → Option Value) (mg mb : Str → Option Value) (x lo hi : Int) (t t1 t2 t3 : vTok) (C : Addr)
    (h1 : HasAttr (hd.heap_39 w.params) C "min_val" (.int lo t1)) (h2 : HasAttr (hd.heap_39 w.params) C "max_val" (.int hi t2)) :
    Ct w p loose mean mg mb 220 2 [.int x t, .ref C] (fun v ex => v = .bool (decide (lo ≤ x ∧ x ≤ hi)) ∧ ex = []) := by
  unfold Ct prg
  k_fill
  intro dp un gd cn cs a ccd cl outer A₀ base h₀ L m news s Q E B F X N T hk hd hu hret
  refine wpAny_call ?_
  k_dflt cell_enter
  k_steps
  all_goals exact hret _ [] _ _ ⟨bool_is (by simp only [Bool.false_eq_true, if_false, if_true, false_iff, true_iff, decide_eq_true_eq] at *; omega), rfl⟩ (fun _ h => nomatch h) (by k_asm) (by k_asm)

set_option maxHeartbeats 8000000 in
theorem enforced_int (w : World) (p : Program) (loose : List Str) (mean : ExcName → Option Value) (mg mb : Str → Option Value) (x lo hi : Int) (nm : Str) (t t1 t2 t3 : vTok) (C : Addr)
    (h1 : HasAttr (hd.heap_39 w.params) C "min_val" (.int lo t1)) (h2 : HasAttr (hd.heap_39 w.params) C "max_val" (.int hi t2)) (h3 : HasAttr (hd.heap_39 w.params) C "name" (.str nm t3))
    (hx : x.natAbs.log2 < 1920) (hxl : (Str.ofString (toString x)).length ≤ 1921) (hn : nm.length ≤ 100) :
    Ct0 w p loose mean mg mb 253 3 [.int x t, .ref C] (fun v ex => v = .bool (decide (lo ≤ x ∧ x ≤ hi)) ∧ ex = []) := by
  unfold Ct0 prg
  k_fill
  intro dp un gd cn cs a ccd cl A₀ h₀ L m news s Q E B F X N T hk hd hu hret
  refine wpAny_call ?_
  k_dflt (refine' enter_catching ?k1 ?k2 ?k3 ?k4 ?k5 ?kA ?kF ?kK ?k6 ?k7 ?k8 ?k9 ?kB ?_ ?c2 ?c3 ?c4 ?c5; (case kA => exact rfl); (case kF => exact rfl); (case kK => assumption); (case k1 => k_asm); (case k2 => k_asm); (case k3 => k_asm); (case k4 => k_asm); (case k5 => k_asm); (case k6 => k_is); (case k7 => k_is); (case k8 => ktr_room); (case k9 => exact BindsTo.of_eq rfl); (case c5 => decide); (case kB => exact locs rfl); (case c2 => exact rfl); (case c3 => exact rfl); (case c4 => exact rfl); k_whole; intro g' L' h' FG' F' N' B' X' T' D'; (try dsimp only); (try k_lift B'); (try k_fold))
  k_steps
  all_goals exact hret _ [] _ _ ⟨bool_is (by simp only [Bool.false_eq_true, if_false, if_true, false_iff, true_iff, decide_eq_true_eq] at *; omega), rfl⟩ (fun _ h => nomatch h) (by k_asm) (by k_asm)

set_option maxHeartbeats 8000000 in
theorem valid_bool (w : World) (p : Program) (loose : List Str) (mean : ExcName → Option Value) (mg mb : Str → Option Value) (x : Int) (t t3 : vTok) (C : Addr)
    (h1 : HasAttr (hd.heap_39 w.params) C "min_val" (.bool false)) (h2 : HasAttr (hd.heap_39 w.params) C "max_val" (.bool true)) :
    Ct w p loose mean mg mb 220 2 [.int x t, .ref C] (fun v ex => v = .bool (decide (0 ≤ x ∧ x ≤ 1)) ∧ ex = []) := by
  unfold Ct prg
  k_fill
  intro dp un gd cn cs a ccd cl outer A₀ base h₀ L m news s Q E B F X N T hk hd hu hret
  refine wpAny_call ?_
  k_dflt cell_enter
  k_steps
  all_goals exact hret _ [] _ _ ⟨bool_is (by simp only [Bool.false_eq_true, if_false, if_true, false_iff, true_iff, decide_eq_true_eq] at *; omega), rfl⟩ (fun _ h => nomatch h) (by k_asm) (by k_asm)

set_option maxHeartbeats 8000000 in
theorem enforced_bool (w : World) (p : Program) (loose : List Str) (mean : ExcName → Option Value) (mg mb : Str → Option Value) (x : Int) (nm : Str) (t t3 : vTok) (C : Addr)
    (h1 : HasAttr (hd.heap_39 w.params) C "min_val" (.bool false)) (h2 : HasAttr (hd.heap_39 w.params) C "max_val" (.bool true)) (h3 : HasAttr (hd.heap_39 w.params) C "name" (.str nm t3))
    (hx : x.natAbs.log2 < 1920) (hxl : (Str.ofString (toString x)).length ≤ 1921) (hn : nm.length ≤ 100) :
    Ct0 w p loose mean mg mb 253 3 [.int x t, .ref C] (fun v ex => v = .bool (decide (0 ≤ x ∧ x ≤ 1)) ∧ ex = []) := by
  unfold Ct0 prg
  k_fill
  intro dp un gd cn cs a ccd cl A₀ h₀ L m news s Q E B F X N T hk hd hu hret
  refine wpAny_call ?_
  k_dflt (refine' enter_catching ?k1 ?k2 ?k3 ?k4 ?k5 ?kA ?kF ?kK ?k6 ?k7 ?k8 ?k9 ?kB ?_ ?c2 ?c3 ?c4 ?c5; (case kA => exact rfl); (case kF => exact rfl); (case kK => assumption); (case k1 => k_asm); (case k2 => k_asm); (case k3 => k_asm); (case k4 => k_asm); (case k5 => k_asm); (case k6 => k_is); (case k7 => k_is); (case k8 => ktr_room); (case k9 => exact BindsTo.of_eq rfl); (case c5 => decide); (case kB => exact locs rfl); (case c2 => exact rfl); (case c3 => exact rfl); (case c4 => exact rfl); k_whole; intro g' L' h' FG' F' N' B' X' T' D'; (try dsimp only); (try k_lift B'); (try k_fold))
  k_steps
  all_goals exact hret _ [] _ _ ⟨bool_is (by simp only [Bool.false_eq_true, if_false, if_true, false_iff, true_iff, decide_eq_true_eq] at *; omega), rfl⟩ (fun _ h => nomatch h) (by k_asm) (by k_asm)

end Mine
end
section
open PySem PySem.W PyProof.Rows PySem.Calls
namespace Mine
local macro_rules | `(tactic| k_room) => `(tactic| ktr_room)
local macro_rules | `(tactic| k_units) => `(tactic| ktr_units)
theorem allLt_to {d : Addr} {l : List (Addr × Obj)} : AllLt d l → ∀ p ∈ l, p.1 < d := by
  induction l with
  | nil => intro _ p m; cases m
  | cons a r ih =>
    intro h p m
    rcases List.mem_cons.mp m with rfl | m
    · exact h.1
    · exact ih h.2 p m
theorem rows_end {h₀ h' : Heap} {L : Addr} {m : Str → Option Value} {news news' : List (Addr × Obj)} {s : Shared} {Q : Value → Shared → Prop} {k wd lo hi : Int} {nm : Str} {l t : Addr} {vs : List Value} {n n' tk' : Nat} {a b c d : vTok}
    (hret : ∀ v ex h' tk', (∃ (l t : Addr) (vs : List Value) (n n' : Nat) (a b c d : vTok), v = .ref l ∧ vs[k.toNat]? = some (.ref t) ∧ ex = [(l, listOf vs.toArray n), (t, tupObj [.int wd a, .int lo b, .int hi c, .str nm d] n')]) → (∀ q ∈ ex, LCg.Off1 q.1 news) → Fr h₀ L h' m → News h₀ L h' (ex ++ news) → Q v { s with heap := h', toks := tk' })
    (F : Fr h₀ L h' m) (N : News h₀ L h' news') (hl : (l, listOf vs.toArray n) ∈ news') (hx : vs[k.toNat]? = some (.ref t)) (ht : (t, tupObj [.int wd a, .int lo b, .int hi c, .str nm d] n') ∈ news') (hsub : ∀ q ∈ news, q ∈ news')
    (al : ∀ r ∈ news, r.1 < l) (at' : ∀ r ∈ news, r.1 < t) : Q (.ref l) { s with heap := h', toks := tk' } :=
  hret _ _ _ _ ⟨l, t, vs, n, n', a, b, c, d, rfl, hx, rfl⟩ (List.forall_mem_cons.mpr ⟨off1_of al, List.forall_mem_cons.mpr ⟨off1_of at', List.forall_mem_nil _⟩⟩) F
    (cb_drop N (List.forall_mem_cons.mpr ⟨hl, List.forall_mem_cons.mpr ⟨ht, hsub⟩⟩))

set_option maxHeartbeats 8000000 in
theorem rows_ct (w : World) (p : Program) (loose : List Str) (mean : ExcName → Option Value) (mg mb : Str → Option Value) (k wd lo hi : Int) (nm : Str) (h0 : 0 ≤ k) (hr : rowTab[k.toNat]? = some (wd, lo, hi, nm)) :
    Ct w p loose mean mg mb 234 2 [] (fun v ex => ∃ (l t : Addr) (vs : List Value) (n n' : Nat) (a b c d : vTok), v = .ref l ∧ vs[k.toNat]? = some (.ref t) ∧ ex = [(l, listOf vs.toArray n), (t, tupObj [.int wd a, .int lo b, .int hi c, .str nm d] n')]) := by
  unfold Ct prg
  k_fill
  intro dp un gd cn cs a ccd cl outer A₀ base h₀ L m news s Q E B F X N T hk hd hu hret
  refine wpAny_call ?_
  k_dflt cell_enter
  k_steps
  all_goals (rcases twelve h0 hr with rfl | rfl | rfl | rfl | rfl | rfl | rfl | rfl | rfl | rfl | rfl | rfl)
  · have hr' : some ((1, 0, 1, "bool") : Int × Int × Int × Str) = some (wd, lo, hi, nm) := hr
    cases hr'
    refine' rows_end hret ?F ?N ?l ?x ?t ?u ?a ?b
    (case F => k_asm)
    (case N => assumption)
    (case l => k_mem)
    (case x => rfl)
    (case t => k_mem)
    (case u => intro q hq; repeat (first | exact hq | refine List.Mem.tail _ ?_))
    (case a => first | assumption | exact allLt_to (by assumption) | exact allLt_to (‹_ ∧ AllLt _ news›).2 | exact allLt_to (‹_ ∧ _ ∧ AllLt _ news›).2.2 | exact allLt_to (‹_ ∧ _ ∧ _ ∧ AllLt _ news›).2.2.2 | exact allLt_to (‹_ ∧ _ ∧ _ ∧ _ ∧ AllLt _ news›).2.2.2.2 | exact allLt_to (‹_ ∧ _ ∧ _ ∧ _ ∧ _ ∧ AllLt _ news›).2.2.2.2.2 | exact allLt_to (‹_ ∧ _ ∧ _ ∧ _ ∧ _ ∧ _ ∧ AllLt _ news›).2.2.2.2.2.2 | exact allLt_to (‹_ ∧ _ ∧ _ ∧ _ ∧ _ ∧ _ ∧ _ ∧ AllLt _ news›).2.2.2.2.2.2.2 | exact allLt_to (‹_ ∧ _ ∧ _ ∧ _ ∧ _ ∧ _ ∧ _ ∧ _ ∧ AllLt _ news›).2.2.2.2.2.2.2.2 | exact allLt_to (‹_ ∧ _ ∧ _ ∧ _ ∧ _ ∧ _ ∧ _ ∧ _ ∧ _ ∧ AllLt _ news›).2.2.2.2.2.2.2.2.2 | exact allLt_to (‹_ ∧ _ ∧ _ ∧ _ ∧ _ ∧ _ ∧ _ ∧ _ ∧ _ ∧ _ ∧ AllLt _ news›).2.2.2.2.2.2.2.2.2.2 | exact allLt_to (‹_ ∧ _ ∧ _ ∧ _ ∧ _ ∧ _ ∧ _ ∧ _ ∧ _ ∧ _ ∧ _ ∧ AllLt _ news›).2.2.2.2.2.2.2.2.2.2.2 | exact allLt_to (‹_ ∧ _ ∧ _ ∧ _ ∧ _ ∧ _ ∧ _ ∧ _ ∧ _ ∧ _ ∧ _ ∧ _ ∧ AllLt _ news›).2.2.2.2.2.2.2.2.2.2.2.2)
    (case b => first | assumption | exact allLt_to (by assumption) | exact allLt_to (‹_ ∧ AllLt _ news›).2 | exact allLt_to (‹_ ∧ _ ∧ AllLt _ news›).2.2 | exact allLt_to (‹_ ∧ _ ∧ _ ∧ AllLt _ news›).2.2.2 | exact allLt_to (‹_ ∧ _ ∧ _ ∧ _ ∧ AllLt _ news›).2.2.2.2 | exact allLt_to (‹_ ∧ _ ∧ _ ∧ _ ∧ _ ∧ AllLt _ news›).2.2.2.2.2 | exact allLt_to (‹_ ∧ _ ∧ _ ∧ _ ∧ _ ∧ _ ∧ AllLt _ news›).2.2.2.2.2.2 | exact allLt_to (‹_ ∧ _ ∧ _ ∧ _ ∧ _ ∧ _ ∧ _ ∧ AllLt _ news›).2.2.2.2.2.2.2 | exact allLt_to (‹_ ∧ _ ∧ _ ∧ _ ∧ _ ∧ _ ∧ _ ∧ _ ∧ AllLt _ news›).2.2.2.2.2.2.2.2 | exact allLt_to (‹_ ∧ _ ∧ _ ∧ _ ∧ _ ∧ _ ∧ _ ∧ _ ∧ _ ∧ AllLt _ news›).2.2.2.2.2.2.2.2.2 | exact allLt_to (‹_ ∧ _ ∧ _ ∧ _ ∧ _ ∧ _ ∧ _ ∧ _ ∧ _ ∧ _ ∧ AllLt _ news›).2.2.2.2.2.2.2.2.2.2 | exact allLt_to (‹_ ∧ _ ∧ _ ∧ _ ∧ _ ∧ _ ∧ _ ∧ _ ∧ _ ∧ _ ∧ _ ∧ AllLt _ news›).2.2.2.2.2.2.2.2.2.2.2 | exact allLt_to (‹_ ∧ _ ∧ _ ∧ _ ∧ _ ∧ _ ∧ _ ∧ _ ∧ _ ∧ _ ∧ _ ∧ _ ∧ AllLt _ news›).2.2.2.2.2.2.2.2.2.2.2.2)
  · have hr' : some ((1, 0, 255, "uint8") : Int × Int × Int × Str) = some (wd, lo, hi, nm) := hr
    cases hr'
    refine' rows_end hret ?F ?N ?l ?x ?t ?u ?a ?b
    (case F => k_asm)
    (case N => assumption)
    (case l => k_mem)
    (case x => rfl)
    (case t => k_mem)
    (case u => intro q hq; repeat (first | exact hq | refine List.Mem.tail _ ?_))
    (case a => first | assumption | exact allLt_to (by assumption) | exact allLt_to (‹_ ∧ AllLt _ news›).2 | exact allLt_to (‹_ ∧ _ ∧ AllLt _ news›).2.2 | exact allLt_to (‹_ ∧ _ ∧ _ ∧ AllLt _ news›).2.2.2 | exact allLt_to (‹_ ∧ _ ∧ _ ∧ _ ∧ AllLt _ news›).2.2.2.2 | exact allLt_to (‹_ ∧ _ ∧ _ ∧ _ ∧ _ ∧ AllLt _ news›).2.2.2.2.2 | exact allLt_to (‹_ ∧ _ ∧ _ ∧ _ ∧ _ ∧ _ ∧ AllLt _ news›).2.2.2.2.2.2 | exact allLt_to (‹_ ∧ _ ∧ _ ∧ _ ∧ _ ∧ _ ∧ _ ∧ AllLt _ news›).2.2.2.2.2.2.2 | exact allLt_to (‹_ ∧ _ ∧ _ ∧ _ ∧ _ ∧ _ ∧ _ ∧ _ ∧ AllLt _ news›).2.2.2.2.2.2.2.2 | exact allLt_to (‹_ ∧ _ ∧ _ ∧ _ ∧ _ ∧ _ ∧ _ ∧ _ ∧ _ ∧ AllLt _ news›).2.2.2.2.2.2.2.2.2 | exact allLt_to (‹_ ∧ _ ∧ _ ∧ _ ∧ _ ∧ _ ∧ _ ∧ _ ∧ _ ∧ _ ∧ AllLt _ news›).2.2.2.2.2.2.2.2.2.2 | exact allLt_to (‹_ ∧ _ ∧ _ ∧ _ ∧ _ ∧ _ ∧ _ ∧ _ ∧ _ ∧ _ ∧ _ ∧ AllLt _ news›).2.2.2.2.2.2.2.2.2.2.2 | exact allLt_to (‹_ ∧ _ ∧ _ ∧ _ ∧ _ ∧ _ ∧ _ ∧ _ ∧ _ ∧ _ ∧ _ ∧ _ ∧ AllLt _ news›).2.2.2.2.2.2.2.2.2.2.2.2)
    (case b => first | assumption | exact allLt_to (by assumption) | exact allLt_to (‹_ ∧ AllLt _ news›).2 | exact allLt_to (‹_ ∧ _ ∧ AllLt _ news›).2.2 | exact allLt_to (‹_ ∧ _ ∧ _ ∧ AllLt _ news›).2.2.2 | exact allLt_to (‹_ ∧ _ ∧ _ ∧ _ ∧ AllLt _ news›).2.2.2.2 | exact allLt_to (‹_ ∧ _ ∧ _ ∧ _ ∧ _ ∧ AllLt _ news›).2.2.2.2.2 | exact allLt_to (‹_ ∧ _ ∧ _ ∧ _ ∧ _ ∧ _ ∧ AllLt _ news›).2.2.2.2.2.2 | exact allLt_to (‹_ ∧ _ ∧ _ ∧ _ ∧ _ ∧ _ ∧ _ ∧ AllLt _ news›).2.2.2.2.2.2.2 | exact allLt_to (‹_ ∧ _ ∧ _ ∧ _ ∧ _ ∧ _ ∧ _ ∧ _ ∧ AllLt _ news›).2.2.2.2.2.2.2.2 | exact allLt_to (‹_ ∧ _ ∧ _ ∧ _ ∧ _ ∧ _ ∧ _ ∧ _ ∧ _ ∧ AllLt _ news›).2.2.2.2.2.2.2.2.2 | exact allLt_to (‹_ ∧ _ ∧ _ ∧ _ ∧ _ ∧ _ ∧ _ ∧ _ ∧ _ ∧ _ ∧ AllLt _ news›).2.2.2.2.2.2.2.2.2.2 | exact allLt_to (‹_ ∧ _ ∧ _ ∧ _ ∧ _ ∧ _ ∧ _ ∧ _ ∧ _ ∧ _ ∧ _ ∧ AllLt _ news›).2.2.2.2.2.2.2.2.2.2.2 | exact allLt_to (‹_ ∧ _ ∧ _ ∧ _ ∧ _ ∧ _ ∧ _ ∧ _ ∧ _ ∧ _ ∧ _ ∧ _ ∧ AllLt _ news›).2.2.2.2.2.2.2.2.2.2.2.2)
  · have hr' : some ((2, 0, 65535, "uint16") : Int × Int × Int × Str) = some (wd, lo, hi, nm) := hr
    cases hr'
    refine' rows_end hret ?F ?N ?l ?x ?t ?u ?a ?b
    (case F => k_asm)
    (case N => assumption)
    (case l => k_mem)
    (case x => rfl)
    (case t => k_mem)
    (case u => intro q hq; repeat (first | exact hq | refine List.Mem.tail _ ?_))
    (case a => first | assumption | exact allLt_to (by assumption) | exact allLt_to (‹_ ∧ AllLt _ news›).2 | exact allLt_to (‹_ ∧ _ ∧ AllLt _ news›).2.2 | exact allLt_to (‹_ ∧ _ ∧ _ ∧ AllLt _ news›).2.2.2 | exact allLt_to (‹_ ∧ _ ∧ _ ∧ _ ∧ AllLt _ news›).2.2.2.2 | exact allLt_to (‹_ ∧ _ ∧ _ ∧ _ ∧ _ ∧ AllLt _ news›).2.2.2.2.2 | exact allLt_to (‹_ ∧ _ ∧ _ ∧ _ ∧ _ ∧ _ ∧ AllLt _ news›).2.2.2.2.2.2 | exact allLt_to (‹_ ∧ _ ∧ _ ∧ _ ∧ _ ∧ _ ∧ _ ∧ AllLt _ news›).2.2.2.2.2.2.2 | exact allLt_to (‹_ ∧ _ ∧ _ ∧ _ ∧ _ ∧ _ ∧ _ ∧ _ ∧ AllLt _ news›).2.2.2.2.2.2.2.2 | exact allLt_to (‹_ ∧ _ ∧ _ ∧ _ ∧ _ ∧ _ ∧ _ ∧ _ ∧ _ ∧ AllLt _ news›).2.2.2.2.2.2.2.2.2 | exact allLt_to (‹_ ∧ _ ∧ _ ∧ _ ∧ _ ∧ _ ∧ _ ∧ _ ∧ _ ∧ _ ∧ AllLt _ news›).2.2.2.2.2.2.2.2.2.2 | exact allLt_to (‹_ ∧ _ ∧ _ ∧ _ ∧ _ ∧ _ ∧ _ ∧ _ ∧ _ ∧ _ ∧ _ ∧ AllLt _ news›).2.2.2.2.2.2.2.2.2.2.2 | exact allLt_to (‹_ ∧ _ ∧ _ ∧ _ ∧ _ ∧ _ ∧ _ ∧ _ ∧ _ ∧ _ ∧ _ ∧ _ ∧ AllLt _ news›).2.2.2.2.2.2.2.2.2.2.2.2)
    (case b => first | assumption | exact allLt_to (by assumption) | exact allLt_to (‹_ ∧ AllLt _ news›).2 | exact allLt_to (‹_ ∧ _ ∧ AllLt _ news›).2.2 | exact allLt_to (‹_ ∧ _ ∧ _ ∧ AllLt _ news›).2.2.2 | exact allLt_to (‹_ ∧ _ ∧ _ ∧ _ ∧ AllLt _ news›).2.2.2.2 | exact allLt_to (‹_ ∧ _ ∧ _ ∧ _ ∧ _ ∧ AllLt _ news›).2.2.2.2.2 | exact allLt_to (‹_ ∧ _ ∧ _ ∧ _ ∧ _ ∧ _ ∧ AllLt _ news›).2.2.2.2.2.2 | exact allLt_to (‹_ ∧ _ ∧ _ ∧ _ ∧ _ ∧ _ ∧ _ ∧ AllLt _ news›).2.2.2.2.2.2.2 | exact allLt_to (‹_ ∧ _ ∧ _ ∧ _ ∧ _ ∧ _ ∧ _ ∧ _ ∧ AllLt _ news›).2.2.2.2.2.2.2.2 | exact allLt_to (‹_ ∧ _ ∧ _ ∧ _ ∧ _ ∧ _ ∧ _ ∧ _ ∧ _ ∧ AllLt _ news›).2.2.2.2.2.2.2.2.2 | exact allLt_to (‹_ ∧ _ ∧ _ ∧ _ ∧ _ ∧ _ ∧ _ ∧ _ ∧ _ ∧ _ ∧ AllLt _ news›).2.2.2.2.2.2.2.2.2.2 | exact allLt_to (‹_ ∧ _ ∧ _ ∧ _ ∧ _ ∧ _ ∧ _ ∧ _ ∧ _ ∧ _ ∧ _ ∧ AllLt _ news›).2.2.2.2.2.2.2.2.2.2.2 | exact allLt_to (‹_ ∧ _ ∧ _ ∧ _ ∧ _ ∧ _ ∧ _ ∧ _ ∧ _ ∧ _ ∧ _ ∧ _ ∧ AllLt _ news›).2.2.2.2.2.2.2.2.2.2.2.2)
  · have hr' : some ((4, 0, 4294967295, "uint32") : Int × Int × Int × Str) = some (wd, lo, hi, nm) := hr
    cases hr'
    refine' rows_end hret ?F ?N ?l ?x ?t ?u ?a ?b
    (case F => k_asm)
    (case N => assumption)
    (case l => k_mem)
    (case x => rfl)
    (case t => k_mem)
    (case u => intro q hq; repeat (first | exact hq | refine List.Mem.tail _ ?_))
    (case a => first | assumption | exact allLt_to (by assumption) | exact allLt_to (‹_ ∧ AllLt _ news›).2 | exact allLt_to (‹_ ∧ _ ∧ AllLt _ news›).2.2 | exact allLt_to (‹_ ∧ _ ∧ _ ∧ AllLt _ news›).2.2.2 | exact allLt_to (‹_ ∧ _ ∧ _ ∧ _ ∧ AllLt _ news›).2.2.2.2 | exact allLt_to (‹_ ∧ _ ∧ _ ∧ _ ∧ _ ∧ AllLt _ news›).2.2.2.2.2 | exact allLt_to (‹_ ∧ _ ∧ _ ∧ _ ∧ _ ∧ _ ∧ AllLt _ news›).2.2.2.2.2.2 | exact allLt_to (‹_ ∧ _ ∧ _ ∧ _ ∧ _ ∧ _ ∧ _ ∧ AllLt _ news›).2.2.2.2.2.2.2 | exact allLt_to (‹_ ∧ _ ∧ _ ∧ _ ∧ _ ∧ _ ∧ _ ∧ _ ∧ AllLt _ news›).2.2.2.2.2.2.2.2 | exact allLt_to (‹_ ∧ _ ∧ _ ∧ _ ∧ _ ∧ _ ∧ _ ∧ _ ∧ _ ∧ AllLt _ news›).2.2.2.2.2.2.2.2.2 | exact allLt_to (‹_ ∧ _ ∧ _ ∧ _ ∧ _ ∧ _ ∧ _ ∧ _ ∧ _ ∧ _ ∧ AllLt _ news›).2.2.2.2.2.2.2.2.2.2 | exact allLt_to (‹_ ∧ _ ∧ _ ∧ _ ∧ _ ∧ _ ∧ _ ∧ _ ∧ _ ∧ _ ∧ _ ∧ AllLt _ news›).2.2.2.2.2.2.2.2.2.2.2 | exact allLt_to (‹_ ∧ _ ∧ _ ∧ _ ∧ _ ∧ _ ∧ _ ∧ _ ∧ _ ∧ _ ∧ _ ∧ _ ∧ AllLt _ news›).2.2.2.2.2.2.2.2.2.2.2.2)
    (case b => first | assumption | exact allLt_to (by assumption) | exact allLt_to (‹_ ∧ AllLt _ news›).2 | exact allLt_to (‹_ ∧ _ ∧ AllLt _ news›).2.2 | exact allLt_to (‹_ ∧ _ ∧ _ ∧ AllLt _ news›).2.2.2 | exact allLt_to (‹_ ∧ _ ∧ _ ∧ _ ∧ AllLt _ news›).2.2.2.2 | exact allLt_to (‹_ ∧ _ ∧ _ ∧ _ ∧ _ ∧ AllLt _ news›).2.2.2.2.2 | exact allLt_to (‹_ ∧ _ ∧ _ ∧ _ ∧ _ ∧ _ ∧ AllLt _ news›).2.2.2.2.2.2 | exact allLt_to (‹_ ∧ _ ∧ _ ∧ _ ∧ _ ∧ _ ∧ _ ∧ AllLt _ news›).2.2.2.2.2.2.2 | exact allLt_to (‹_ ∧ _ ∧ _ ∧ _ ∧ _ ∧ _ ∧ _ ∧ _ ∧ AllLt _ news›).2.2.2.2.2.2.2.2 | exact allLt_to (‹_ ∧ _ ∧ _ ∧ _ ∧ _ ∧ _ ∧ _ ∧ _ ∧ _ ∧ AllLt _ news›).2.2.2.2.2.2.2.2.2 | exact allLt_to (‹_ ∧ _ ∧ _ ∧ _ ∧ _ ∧ _ ∧ _ ∧ _ ∧ _ ∧ _ ∧ AllLt _ news›).2.2.2.2.2.2.2.2.2.2 | exact allLt_to (‹_ ∧ _ ∧ _ ∧ _ ∧ _ ∧ _ ∧ _ ∧ _ ∧ _ ∧ _ ∧ _ ∧ AllLt _ news›).2.2.2.2.2.2.2.2.2.2.2 | exact allLt_to (‹_ ∧ _ ∧ _ ∧ _ ∧ _ ∧ _ ∧ _ ∧ _ ∧ _ ∧ _ ∧ _ ∧ _ ∧ AllLt _ news›).2.2.2.2.2.2.2.2.2.2.2.2)
  · have hr' : some ((8, 0, 18446744073709551615, "uint64") : Int × Int × Int × Str) = some (wd, lo, hi, nm) := hr
    cases hr'
    refine' rows_end hret ?F ?N ?l ?x ?t ?u ?a ?b
    (case F => k_asm)
    (case N => assumption)
    (case l => k_mem)
    (case x => rfl)
    (case t => k_mem)
    (case u => intro q hq; repeat (first | exact hq | refine List.Mem.tail _ ?_))
    (case a => first | assumption | exact allLt_to (by assumption) | exact allLt_to (‹_ ∧ AllLt _ news›).2 | exact allLt_to (‹_ ∧ _ ∧ AllLt _ news›).2.2 | exact allLt_to (‹_ ∧ _ ∧ _ ∧ AllLt _ news›).2.2.2 | exact allLt_to (‹_ ∧ _ ∧ _ ∧ _ ∧ AllLt _ news›).2.2.2.2 | exact allLt_to (‹_ ∧ _ ∧ _ ∧ _ ∧ _ ∧ AllLt _ news›).2.2.2.2.2 | exact allLt_to (‹_ ∧ _ ∧ _ ∧ _ ∧ _ ∧ _ ∧ AllLt _ news›).2.2.2.2.2.2 | exact allLt_to (‹_ ∧ _ ∧ _ ∧ _ ∧ _ ∧ _ ∧ _ ∧ AllLt _ news›).2.2.2.2.2.2.2 | exact allLt_to (‹_ ∧ _ ∧ _ ∧ _ ∧ _ ∧ _ ∧ _ ∧ _ ∧ AllLt _ news›).2.2.2.2.2.2.2.2 | exact allLt_to (‹_ ∧ _ ∧ _ ∧ _ ∧ _ ∧ _ ∧ _ ∧ _ ∧ _ ∧ AllLt _ news›).2.2.2.2.2.2.2.2.2 | exact allLt_to (‹_ ∧ _ ∧ _ ∧ _ ∧ _ ∧ _ ∧ _ ∧ _ ∧ _ ∧ _ ∧ AllLt _ news›).2.2.2.2.2.2.2.2.2.2 | exact allLt_to (‹_ ∧ _ ∧ _ ∧ _ ∧ _ ∧ _ ∧ _ ∧ _ ∧ _ ∧ _ ∧ _ ∧ AllLt _ news›).2.2.2.2.2.2.2.2.2.2.2 | exact allLt_to (‹_ ∧ _ ∧ _ ∧ _ ∧ _ ∧ _ ∧ _ ∧ _ ∧ _ ∧ _ ∧ _ ∧ _ ∧ AllLt _ news›).2.2.2.2.2.2.2.2.2.2.2.2)
    (case b => first | assumption | exact allLt_to (by assumption) | exact allLt_to (‹_ ∧ AllLt _ news›).2 | exact allLt_to (‹_ ∧ _ ∧ AllLt _ news›).2.2 | exact allLt_to (‹_ ∧ _ ∧ _ ∧ AllLt _ news›).2.2.2 | exact allLt_to (‹_ ∧ _ ∧ _ ∧ _ ∧ AllLt _ news›).2.2.2.2 | exact allLt_to (‹_ ∧ _ ∧ _ ∧ _ ∧ _ ∧ AllLt _ news›).2.2.2.2.2 | exact allLt_to (‹_ ∧ _ ∧ _ ∧ _ ∧ _ ∧ _ ∧ AllLt _ news›).2.2.2.2.2.2 | exact allLt_to (‹_ ∧ _ ∧ _ ∧ _ ∧ _ ∧ _ ∧ _ ∧ AllLt _ news›).2.2.2.2.2.2.2 | exact allLt_to (‹_ ∧ _ ∧ _ ∧ _ ∧ _ ∧ _ ∧ _ ∧ _ ∧ AllLt _ news›).2.2.2.2.2.2.2.2 | exact allLt_to (‹_ ∧ _ ∧ _ ∧ _ ∧ _ ∧ _ ∧ _ ∧ _ ∧ _ ∧ AllLt _ news›).2.2.2.2.2.2.2.2.2 | exact allLt_to (‹_ ∧ _ ∧ _ ∧ _ ∧ _ ∧ _ ∧ _ ∧ _ ∧ _ ∧ _ ∧ AllLt _ news›).2.2.2.2.2.2.2.2.2.2 | exact allLt_to (‹_ ∧ _ ∧ _ ∧ _ ∧ _ ∧ _ ∧ _ ∧ _ ∧ _ ∧ _ ∧ _ ∧ AllLt _ news›).2.2.2.2.2.2.2.2.2.2.2 | exact allLt_to (‹_ ∧ _ ∧ _ ∧ _ ∧ _ ∧ _ ∧ _ ∧ _ ∧ _ ∧ _ ∧ _ ∧ _ ∧ AllLt _ news›).2.2.2.2.2.2.2.2.2.2.2.2)
  · have hr' : some ((1, -128, 127, "int8") : Int × Int × Int × Str) = some (wd, lo, hi, nm) := hr
    cases hr'
    refine' rows_end hret ?F ?N ?l ?x ?t ?u ?a ?b
    (case F => k_asm)
    (case N => assumption)
    (case l => k_mem)
    (case x => rfl)
    (case t => k_mem)
    (case u => intro q hq; repeat (first | exact hq | refine List.Mem.tail _ ?_))
    (case a => first | assumption | exact allLt_to (by assumption) | exact allLt_to (‹_ ∧ AllLt _ news›).2 | exact allLt_to (‹_ ∧ _ ∧ AllLt _ news›).2.2 | exact allLt_to (‹_ ∧ _ ∧ _ ∧ AllLt _ news›).2.2.2 | exact allLt_to (‹_ ∧ _ ∧ _ ∧ _ ∧ AllLt _ news›).2.2.2.2 | exact allLt_to (‹_ ∧ _ ∧ _ ∧ _ ∧ _ ∧ AllLt _ news›).2.2.2.2.2 | exact allLt_to (‹_ ∧ _ ∧ _ ∧ _ ∧ _ ∧ _ ∧ AllLt _ news›).2.2.2.2.2.2 | exact allLt_to (‹_ ∧ _ ∧ _ ∧ _ ∧ _ ∧ _ ∧ _ ∧ AllLt _ news›).2.2.2.2.2.2.2 | exact allLt_to (‹_ ∧ _ ∧ _ ∧ _ ∧ _ ∧ _ ∧ _ ∧ _ ∧ AllLt _ news›).2.2.2.2.2.2.2.2 | exact allLt_to (‹_ ∧ _ ∧ _ ∧ _ ∧ _ ∧ _ ∧ _ ∧ _ ∧ _ ∧ AllLt _ news›).2.2.2.2.2.2.2.2.2 | exact allLt_to (‹_ ∧ _ ∧ _ ∧ _ ∧ _ ∧ _ ∧ _ ∧ _ ∧ _ ∧ _ ∧ AllLt _ news›).2.2.2.2.2.2.2.2.2.2 | exact allLt_to (‹_ ∧ _ ∧ _ ∧ _ ∧ _ ∧ _ ∧ _ ∧ _ ∧ _ ∧ _ ∧ _ ∧ AllLt _ news›).2.2.2.2.2.2.2.2.2.2.2 | exact allLt_to (‹_ ∧ _ ∧ _ ∧ _ ∧ _ ∧ _ ∧ _ ∧ _ ∧ _ ∧ _ ∧ _ ∧ _ ∧ AllLt _ news›).2.2.2.2.2.2.2.2.2.2.2.2)
    (case b => first | assumption | exact allLt_to (by assumption) | exact allLt_to (‹_ ∧ AllLt _ news›).2 | exact allLt_to (‹_ ∧ _ ∧ AllLt _ news›).2.2 | exact allLt_to (‹_ ∧ _ ∧ _ ∧ AllLt _ news›).2.2.2 | exact allLt_to (‹_ ∧ _ ∧ _ ∧ _ ∧ AllLt _ news›).2.2.2.2 | exact allLt_to (‹_ ∧ _ ∧ _ ∧ _ ∧ _ ∧ AllLt _ news›).2.2.2.2.2 | exact allLt_to (‹_ ∧ _ ∧ _ ∧ _ ∧ _ ∧ _ ∧ AllLt _ news›).2.2.2.2.2.2 | exact allLt_to (‹_ ∧ _ ∧ _ ∧ _ ∧ _ ∧ _ ∧ _ ∧ AllLt _ news›).2.2.2.2.2.2.2 | exact allLt_to (‹_ ∧ _ ∧ _ ∧ _ ∧ _ ∧ _ ∧ _ ∧ _ ∧ AllLt _ news›).2.2.2.2.2.2.2.2 | exact allLt_to (‹_ ∧ _ ∧ _ ∧ _ ∧ _ ∧ _ ∧ _ ∧ _ ∧ _ ∧ AllLt _ news›).2.2.2.2.2.2.2.2.2 | exact allLt_to (‹_ ∧ _ ∧ _ ∧ _ ∧ _ ∧ _ ∧ _ ∧ _ ∧ _ ∧ _ ∧ AllLt _ news›).2.2.2.2.2.2.2.2.2.2 | exact allLt_to (‹_ ∧ _ ∧ _ ∧ _ ∧ _ ∧ _ ∧ _ ∧ _ ∧ _ ∧ _ ∧ _ ∧ AllLt _ news›).2.2.2.2.2.2.2.2.2.2.2 | exact allLt_to (‹_ ∧ _ ∧ _ ∧ _ ∧ _ ∧ _ ∧ _ ∧ _ ∧ _ ∧ _ ∧ _ ∧ _ ∧ AllLt _ news›).2.2.2.2.2.2.2.2.2.2.2.2)
  · have hr' : some ((2, -32768, 32767, "int16") : Int × Int × Int × Str) = some (wd, lo, hi, nm) := hr
    cases hr'
    refine' rows_end hret ?F ?N ?l ?x ?t ?u ?a ?b
    (case F => k_asm)
    (case N => assumption)
    (case l => k_mem)
    (case x => rfl)
    (case t => k_mem)
    (case u => intro q hq; repeat (first | exact hq | refine List.Mem.tail _ ?_))
    (case a => first | assumption | exact allLt_to (by assumption) | exact allLt_to (‹_ ∧ AllLt _ news›).2 | exact allLt_to (‹_ ∧ _ ∧ AllLt _ news›).2.2 | exact allLt_to (‹_ ∧ _ ∧ _ ∧ AllLt _ news›).2.2.2 | exact allLt_to (‹_ ∧ _ ∧ _ ∧ _ ∧ AllLt _ news›).2.2.2.2 | exact allLt_to (‹_ ∧ _ ∧ _ ∧ _ ∧ _ ∧ AllLt _ news›).2.2.2.2.2 | exact allLt_to (‹_ ∧ _ ∧ _ ∧ _ ∧ _ ∧ _ ∧ AllLt _ news›).2.2.2.2.2.2 | exact allLt_to (‹_ ∧ _ ∧ _ ∧ _ ∧ _ ∧ _ ∧ _ ∧ AllLt _ news›).2.2.2.2.2.2.2 | exact allLt_to (‹_ ∧ _ ∧ _ ∧ _ ∧ _ ∧ _ ∧ _ ∧ _ ∧ AllLt _ news›).2.2.2.2.2.2.2.2 | exact allLt_to (‹_ ∧ _ ∧ _ ∧ _ ∧ _ ∧ _ ∧ _ ∧ _ ∧ _ ∧ AllLt _ news›).2.2.2.2.2.2.2.2.2 | exact allLt_to (‹_ ∧ _ ∧ _ ∧ _ ∧ _ ∧ _ ∧ _ ∧ _ ∧ _ ∧ _ ∧ AllLt _ news›).2.2.2.2.2.2.2.2.2.2 | exact allLt_to (‹_ ∧ _ ∧ _ ∧ _ ∧ _ ∧ _ ∧ _ ∧ _ ∧ _ ∧ _ ∧ _ ∧ AllLt _ news›).2.2.2.2.2.2.2.2.2.2.2 | exact allLt_to (‹_ ∧ _ ∧ _ ∧ _ ∧ _ ∧ _ ∧ _ ∧ _ ∧ _ ∧ _ ∧ _ ∧ _ ∧ AllLt _ news›).2.2.2.2.2.2.2.2.2.2.2.2)
    (case b => first | assumption | exact allLt_to (by assumption) | exact allLt_to (‹_ ∧ AllLt _ news›).2 | exact allLt_to (‹_ ∧ _ ∧ AllLt _ news›).2.2 | exact allLt_to (‹_ ∧ _ ∧ _ ∧ AllLt _ news›).2.2.2 | exact allLt_to (‹_ ∧ _ ∧ _ ∧ _ ∧ AllLt _ news›).2.2.2.2 | exact allLt_to (‹_ ∧ _ ∧ _ ∧ _ ∧ _ ∧ AllLt _ news›).2.2.2.2.2 | exact allLt_to (‹_ ∧ _ ∧ _ ∧ _ ∧ _ ∧ _ ∧ AllLt _ news›).2.2.2.2.2.2 | exact allLt_to (‹_ ∧ _ ∧ _ ∧ _ ∧ _ ∧ _ ∧ _ ∧ AllLt _ news›).2.2.2.2.2.2.2 | exact allLt_to (‹_ ∧ _ ∧ _ ∧ _ ∧ _ ∧ _ ∧ _ ∧ _ ∧ AllLt _ news›).2.2.2.2.2.2.2.2 | exact allLt_to (‹_ ∧ _ ∧ _ ∧ _ ∧ _ ∧ _ ∧ _ ∧ _ ∧ _ ∧ AllLt _ news›).2.2.2.2.2.2.2.2.2 | exact allLt_to (‹_ ∧ _ ∧ _ ∧ _ ∧ _ ∧ _ ∧ _ ∧ _ ∧ _ ∧ _ ∧ AllLt _ news›).2.2.2.2.2.2.2.2.2.2 | exact allLt_to (‹_ ∧ _ ∧ _ ∧ _ ∧ _ ∧ _ ∧ _ ∧ _ ∧ _ ∧ _ ∧ _ ∧ AllLt _ news›).2.2.2.2.2.2.2.2.2.2.2 | exact allLt_to (‹_ ∧ _ ∧ _ ∧ _ ∧ _ ∧ _ ∧ _ ∧ _ ∧ _ ∧ _ ∧ _ ∧ _ ∧ AllLt _ news›).2.2.2.2.2.2.2.2.2.2.2.2)
  · have hr' : some ((4, -2147483648, 2147483647, "int32") : Int × Int × Int × Str) = some (wd, lo, hi, nm) := hr
    cases hr'
    refine' rows_end hret ?F ?N ?l ?x ?t ?u ?a ?b
    (case F => k_asm)
    (case N => assumption)
    (case l => k_mem)
    (case x => rfl)
    (case t => k_mem)
    (case u => intro q hq; repeat (first | exact hq | refine List.Mem.tail _ ?_))
    (case a => first | assumption | exact allLt_to (by assumption) | exact allLt_to (‹_ ∧ AllLt _ news›).2 | exact allLt_to (‹_ ∧ _ ∧ AllLt _ news›).2.2 | exact allLt_to (‹_ ∧ _ ∧ _ ∧ AllLt _ news›).2.2.2 | exact allLt_to (‹_ ∧ _ ∧ _ ∧ _ ∧ AllLt _ news›).2.2.2.2 | exact allLt_to (‹_ ∧ _ ∧ _ ∧ _ ∧ _ ∧ AllLt _ news›).2.2.2.2.2 | exact allLt_to (‹_ ∧ _ ∧ _ ∧ _ ∧ _ ∧ _ ∧ AllLt _ news›).2.2.2.2.2.2 | exact allLt_to (‹_ ∧ _ ∧ _ ∧ _ ∧ _ ∧ _ ∧ _ ∧ AllLt _ news›).2.2.2.2.2.2.2 | exact allLt_to (‹_ ∧ _ ∧ _ ∧ _ ∧ _ ∧ _ ∧ _ ∧ _ ∧ AllLt _ news›).2.2.2.2.2.2.2.2 | exact allLt_to (‹_ ∧ _ ∧ _ ∧ _ ∧ _ ∧ _ ∧ _ ∧ _ ∧ _ ∧ AllLt _ news›).2.2.2.2.2.2.2.2.2 | exact allLt_to (‹_ ∧ _ ∧ _ ∧ _ ∧ _ ∧ _ ∧ _ ∧ _ ∧ _ ∧ _ ∧ AllLt _ news›).2.2.2.2.2.2.2.2.2.2 | exact allLt_to (‹_ ∧ _ ∧ _ ∧ _ ∧ _ ∧ _ ∧ _ ∧ _ ∧ _ ∧ _ ∧ _ ∧ AllLt _ news›).2.2.2.2.2.2.2.2.2.2.2 | exact allLt_to (‹_ ∧ _ ∧ _ ∧ _ ∧ _ ∧ _ ∧ _ ∧ _ ∧ _ ∧ _ ∧ _ ∧ _ ∧ AllLt _ news›).2.2.2.2.2.2.2.2.2.2.2.2)
    (case b => first | assumption | exact allLt_to (by assumption) | exact allLt_to (‹_ ∧ AllLt _ news›).2 | exact allLt_to (‹_ ∧ _ ∧ AllLt _ news›).2.2 | exact allLt_to (‹_ ∧ _ ∧ _ ∧ AllLt _ news›).2.2.2 | exact allLt_to (‹_ ∧ _ ∧ _ ∧ _ ∧ AllLt _ news›).2.2.2.2 | exact allLt_to (‹_ ∧ _ ∧ _ ∧ _ ∧ _ ∧ AllLt _ news›).2.2.2.2.2 | exact allLt_to (‹_ ∧ _ ∧ _ ∧ _ ∧ _ ∧ _ ∧ AllLt _ news›).2.2.2.2.2.2 | exact allLt_to (‹_ ∧ _ ∧ _ ∧ _ ∧ _ ∧ _ ∧ _ ∧ AllLt _ news›).2.2.2.2.2.2.2 | exact allLt_to (‹_ ∧ _ ∧ _ ∧ _ ∧ _ ∧ _ ∧ _ ∧ _ ∧ AllLt _ news›).2.2.2.2.2.2.2.2 | exact allLt_to (‹_ ∧ _ ∧ _ ∧ _ ∧ _ ∧ _ ∧ _ ∧ _ ∧ _ ∧ AllLt _ news›).2.2.2.2.2.2.2.2.2 | exact allLt_to (‹_ ∧ _ ∧ _ ∧ _ ∧ _ ∧ _ ∧ _ ∧ _ ∧ _ ∧ _ ∧ AllLt _ news›).2.2.2.2.2.2.2.2.2.2 | exact allLt_to (‹_ ∧ _ ∧ _ ∧ _ ∧ _ ∧ _ ∧ _ ∧ _ ∧ _ ∧ _ ∧ _ ∧ AllLt _ news›).2.2.2.2.2.2.2.2.2.2.2 | exact allLt_to (‹_ ∧ _ ∧ _ ∧ _ ∧ _ ∧ _ ∧ _ ∧ _ ∧ _ ∧ _ ∧ _ ∧ _ ∧ AllLt _ news›).2.2.2.2.2.2.2.2.2.2.2.2)
  · have hr' : some ((8, -9223372036854775808, 9223372036854775807, "int64") : Int × Int × Int × Str) = some (wd, lo, hi, nm) := hr
    cases hr'
    refine' rows_end hret ?F ?N ?l ?x ?t ?u ?a ?b
    (case F => k_asm)
    (case N => assumption)
    (case l => k_mem)
    (case x => rfl)
    (case t => k_mem)
    (case u => intro q hq; repeat (first | exact hq | refine List.Mem.tail _ ?_))
    (case a => first | assumption | exact allLt_to (by assumption) | exact allLt_to (‹_ ∧ AllLt _ news›).2 | exact allLt_to (‹_ ∧ _ ∧ AllLt _ news›).2.2 | exact allLt_to (‹_ ∧ _ ∧ _ ∧ AllLt _ news›).2.2.2 | exact allLt_to (‹_ ∧ _ ∧ _ ∧ _ ∧ AllLt _ news›).2.2.2.2 | exact allLt_to (‹_ ∧ _ ∧ _ ∧ _ ∧ _ ∧ AllLt _ news›).2.2.2.2.2 | exact allLt_to (‹_ ∧ _ ∧ _ ∧ _ ∧ _ ∧ _ ∧ AllLt _ news›).2.2.2.2.2.2 | exact allLt_to (‹_ ∧ _ ∧ _ ∧ _ ∧ _ ∧ _ ∧ _ ∧ AllLt _ news›).2.2.2.2.2.2.2 | exact allLt_to (‹_ ∧ _ ∧ _ ∧ _ ∧ _ ∧ _ ∧ _ ∧ _ ∧ AllLt _ news›).2.2.2.2.2.2.2.2 | exact allLt_to (‹_ ∧ _ ∧ _ ∧ _ ∧ _ ∧ _ ∧ _ ∧ _ ∧ _ ∧ AllLt _ news›).2.2.2.2.2.2.2.2.2 | exact allLt_to (‹_ ∧ _ ∧ _ ∧ _ ∧ _ ∧ _ ∧ _ ∧ _ ∧ _ ∧ _ ∧ AllLt _ news›).2.2.2.2.2.2.2.2.2.2 | exact allLt_to (‹_ ∧ _ ∧ _ ∧ _ ∧ _ ∧ _ ∧ _ ∧ _ ∧ _ ∧ _ ∧ _ ∧ AllLt _ news›).2.2.2.2.2.2.2.2.2.2.2 | exact allLt_to (‹_ ∧ _ ∧ _ ∧ _ ∧ _ ∧ _ ∧ _ ∧ _ ∧ _ ∧ _ ∧ _ ∧ _ ∧ AllLt _ news›).2.2.2.2.2.2.2.2.2.2.2.2)
    (case b => first | assumption | exact allLt_to (by assumption) | exact allLt_to (‹_ ∧ AllLt _ news›).2 | exact allLt_to (‹_ ∧ _ ∧ AllLt _ news›).2.2 | exact allLt_to (‹_ ∧ _ ∧ _ ∧ AllLt _ news›).2.2.2 | exact allLt_to (‹_ ∧ _ ∧ _ ∧ _ ∧ AllLt _ news›).2.2.2.2 | exact allLt_to (‹_ ∧ _ ∧ _ ∧ _ ∧ _ ∧ AllLt _ news›).2.2.2.2.2 | exact allLt_to (‹_ ∧ _ ∧ _ ∧ _ ∧ _ ∧ _ ∧ AllLt _ news›).2.2.2.2.2.2 | exact allLt_to (‹_ ∧ _ ∧ _ ∧ _ ∧ _ ∧ _ ∧ _ ∧ AllLt _ news›).2.2.2.2.2.2.2 | exact allLt_to (‹_ ∧ _ ∧ _ ∧ _ ∧ _ ∧ _ ∧ _ ∧ _ ∧ AllLt _ news›).2.2.2.2.2.2.2.2 | exact allLt_to (‹_ ∧ _ ∧ _ ∧ _ ∧ _ ∧ _ ∧ _ ∧ _ ∧ _ ∧ AllLt _ news›).2.2.2.2.2.2.2.2.2 | exact allLt_to (‹_ ∧ _ ∧ _ ∧ _ ∧ _ ∧ _ ∧ _ ∧ _ ∧ _ ∧ _ ∧ AllLt _ news›).2.2.2.2.2.2.2.2.2.2 | exact allLt_to (‹_ ∧ _ ∧ _ ∧ _ ∧ _ ∧ _ ∧ _ ∧ _ ∧ _ ∧ _ ∧ _ ∧ AllLt _ news›).2.2.2.2.2.2.2.2.2.2.2 | exact allLt_to (‹_ ∧ _ ∧ _ ∧ _ ∧ _ ∧ _ ∧ _ ∧ _ ∧ _ ∧ _ ∧ _ ∧ _ ∧ AllLt _ news›).2.2.2.2.2.2.2.2.2.2.2.2)
  · have hr' : some ((4, -2147483648, 2147483647, "int32") : Int × Int × Int × Str) = some (wd, lo, hi, nm) := hr
    cases hr'
    refine' rows_end hret ?F ?N ?l ?x ?t ?u ?a ?b
    (case F => k_asm)
    (case N => assumption)
    (case l => k_mem)
    (case x => rfl)
    (case t => k_mem)
    (case u => intro q hq; repeat (first | exact hq | refine List.Mem.tail _ ?_))
    (case a => first | assumption | exact allLt_to (by assumption) | exact allLt_to (‹_ ∧ AllLt _ news›).2 | exact allLt_to (‹_ ∧ _ ∧ AllLt _ news›).2.2 | exact allLt_to (‹_ ∧ _ ∧ _ ∧ AllLt _ news›).2.2.2 | exact allLt_to (‹_ ∧ _ ∧ _ ∧ _ ∧ AllLt _ news›).2.2.2.2 | exact allLt_to (‹_ ∧ _ ∧ _ ∧ _ ∧ _ ∧ AllLt _ news›).2.2.2.2.2 | exact allLt_to (‹_ ∧ _ ∧ _ ∧ _ ∧ _ ∧ _ ∧ AllLt _ news›).2.2.2.2.2.2 | exact allLt_to (‹_ ∧ _ ∧ _ ∧ _ ∧ _ ∧ _ ∧ _ ∧ AllLt _ news›).2.2.2.2.2.2.2 | exact allLt_to (‹_ ∧ _ ∧ _ ∧ _ ∧ _ ∧ _ ∧ _ ∧ _ ∧ AllLt _ news›).2.2.2.2.2.2.2.2 | exact allLt_to (‹_ ∧ _ ∧ _ ∧ _ ∧ _ ∧ _ ∧ _ ∧ _ ∧ _ ∧ AllLt _ news›).2.2.2.2.2.2.2.2.2 | exact allLt_to (‹_ ∧ _ ∧ _ ∧ _ ∧ _ ∧ _ ∧ _ ∧ _ ∧ _ ∧ _ ∧ AllLt _ news›).2.2.2.2.2.2.2.2.2.2 | exact allLt_to (‹_ ∧ _ ∧ _ ∧ _ ∧ _ ∧ _ ∧ _ ∧ _ ∧ _ ∧ _ ∧ _ ∧ AllLt _ news›).2.2.2.2.2.2.2.2.2.2.2 | exact allLt_to (‹_ ∧ _ ∧ _ ∧ _ ∧ _ ∧ _ ∧ _ ∧ _ ∧ _ ∧ _ ∧ _ ∧ _ ∧ AllLt _ news›).2.2.2.2.2.2.2.2.2.2.2.2)
    (case b => first | assumption | exact allLt_to (by assumption) | exact allLt_to (‹_ ∧ AllLt _ news›).2 | exact allLt_to (‹_ ∧ _ ∧ AllLt _ news›).2.2 | exact allLt_to (‹_ ∧ _ ∧ _ ∧ AllLt _ news›).2.2.2 | exact allLt_to (‹_ ∧ _ ∧ _ ∧ _ ∧ AllLt _ news›).2.2.2.2 | exact allLt_to (‹_ ∧ _ ∧ _ ∧ _ ∧ _ ∧ AllLt _ news›).2.2.2.2.2 | exact allLt_to (‹_ ∧ _ ∧ _ ∧ _ ∧ _ ∧ _ ∧ AllLt _ news›).2.2.2.2.2.2 | exact allLt_to (‹_ ∧ _ ∧ _ ∧ _ ∧ _ ∧ _ ∧ _ ∧ AllLt _ news›).2.2.2.2.2.2.2 | exact allLt_to (‹_ ∧ _ ∧ _ ∧ _ ∧ _ ∧ _ ∧ _ ∧ _ ∧ AllLt _ news›).2.2.2.2.2.2.2.2 | exact allLt_to (‹_ ∧ _ ∧ _ ∧ _ ∧ _ ∧ _ ∧ _ ∧ _ ∧ _ ∧ AllLt _ news›).2.2.2.2.2.2.2.2.2 | exact allLt_to (‹_ ∧ _ ∧ _ ∧ _ ∧ _ ∧ _ ∧ _ ∧ _ ∧ _ ∧ _ ∧ AllLt _ news›).2.2.2.2.2.2.2.2.2.2 | exact allLt_to (‹_ ∧ _ ∧ _ ∧ _ ∧ _ ∧ _ ∧ _ ∧ _ ∧ _ ∧ _ ∧ _ ∧ AllLt _ news›).2.2.2.2.2.2.2.2.2.2.2 | exact allLt_to (‹_ ∧ _ ∧ _ ∧ _ ∧ _ ∧ _ ∧ _ ∧ _ ∧ _ ∧ _ ∧ _ ∧ _ ∧ AllLt _ news›).2.2.2.2.2.2.2.2.2.2.2.2)
  · have hr' : some ((4, 0, 4294967295, "uint32") : Int × Int × Int × Str) = some (wd, lo, hi, nm) := hr
    cases hr'
    refine' rows_end hret ?F ?N ?l ?x ?t ?u ?a ?b
    (case F => k_asm)
    (case N => assumption)
    (case l => k_mem)
    (case x => rfl)
    (case t => k_mem)
    (case u => intro q hq; repeat (first | exact hq | refine List.Mem.tail _ ?_))
    (case a => first | assumption | exact allLt_to (by assumption) | exact allLt_to (‹_ ∧ AllLt _ news›).2 | exact allLt_to (‹_ ∧ _ ∧ AllLt _ news›).2.2 | exact allLt_to (‹_ ∧ _ ∧ _ ∧ AllLt _ news›).2.2.2 | exact allLt_to (‹_ ∧ _ ∧ _ ∧ _ ∧ AllLt _ news›).2.2.2.2 | exact allLt_to (‹_ ∧ _ ∧ _ ∧ _ ∧ _ ∧ AllLt _ news›).2.2.2.2.2 | exact allLt_to (‹_ ∧ _ ∧ _ ∧ _ ∧ _ ∧ _ ∧ AllLt _ news›).2.2.2.2.2.2 | exact allLt_to (‹_ ∧ _ ∧ _ ∧ _ ∧ _ ∧ _ ∧ _ ∧ AllLt _ news›).2.2.2.2.2.2.2 | exact allLt_to (‹_ ∧ _ ∧ _ ∧ _ ∧ _ ∧ _ ∧ _ ∧ _ ∧ AllLt _ news›).2.2.2.2.2.2.2.2 | exact allLt_to (‹_ ∧ _ ∧ _ ∧ _ ∧ _ ∧ _ ∧ _ ∧ _ ∧ _ ∧ AllLt _ news›).2.2.2.2.2.2.2.2.2 | exact allLt_to (‹_ ∧ _ ∧ _ ∧ _ ∧ _ ∧ _ ∧ _ ∧ _ ∧ _ ∧ _ ∧ AllLt _ news›).2.2.2.2.2.2.2.2.2.2 | exact allLt_to (‹_ ∧ _ ∧ _ ∧ _ ∧ _ ∧ _ ∧ _ ∧ _ ∧ _ ∧ _ ∧ _ ∧ AllLt _ news›).2.2.2.2.2.2.2.2.2.2.2 | exact allLt_to (‹_ ∧ _ ∧ _ ∧ _ ∧ _ ∧ _ ∧ _ ∧ _ ∧ _ ∧ _ ∧ _ ∧ _ ∧ AllLt _ news›).2.2.2.2.2.2.2.2.2.2.2.2)
    (case b => first | assumption | exact allLt_to (by assumption) | exact allLt_to (‹_ ∧ AllLt _ news›).2 | exact allLt_to (‹_ ∧ _ ∧ AllLt _ news›).2.2 | exact allLt_to (‹_ ∧ _ ∧ _ ∧ AllLt _ news›).2.2.2 | exact allLt_to (‹_ ∧ _ ∧ _ ∧ _ ∧ AllLt _ news›).2.2.2.2 | exact allLt_to (‹_ ∧ _ ∧ _ ∧ _ ∧ _ ∧ AllLt _ news›).2.2.2.2.2 | exact allLt_to (‹_ ∧ _ ∧ _ ∧ _ ∧ _ ∧ _ ∧ AllLt _ news›).2.2.2.2.2.2 | exact allLt_to (‹_ ∧ _ ∧ _ ∧ _ ∧ _ ∧ _ ∧ _ ∧ AllLt _ news›).2.2.2.2.2.2.2 | exact allLt_to (‹_ ∧ _ ∧ _ ∧ _ ∧ _ ∧ _ ∧ _ ∧ _ ∧ AllLt _ news›).2.2.2.2.2.2.2.2 | exact allLt_to (‹_ ∧ _ ∧ _ ∧ _ ∧ _ ∧ _ ∧ _ ∧ _ ∧ _ ∧ AllLt _ news›).2.2.2.2.2.2.2.2.2 | exact allLt_to (‹_ ∧ _ ∧ _ ∧ _ ∧ _ ∧ _ ∧ _ ∧ _ ∧ _ ∧ _ ∧ AllLt _ news›).2.2.2.2.2.2.2.2.2.2 | exact allLt_to (‹_ ∧ _ ∧ _ ∧ _ ∧ _ ∧ _ ∧ _ ∧ _ ∧ _ ∧ _ ∧ _ ∧ AllLt _ news›).2.2.2.2.2.2.2.2.2.2.2 | exact allLt_to (‹_ ∧ _ ∧ _ ∧ _ ∧ _ ∧ _ ∧ _ ∧ _ ∧ _ ∧ _ ∧ _ ∧ _ ∧ AllLt _ news›).2.2.2.2.2.2.2.2.2.2.2.2)
  · have hr' : some ((2, 0, 65535, "uint16") : Int × Int × Int × Str) = some (wd, lo, hi, nm) := hr
    cases hr'
    refine' rows_end hret ?F ?N ?l ?x ?t ?u ?a ?b
    (case F => k_asm)
    (case N => assumption)
    (case l => k_mem)
    (case x => rfl)
    (case t => k_mem)
    (case u => intro q hq; repeat (first | exact hq | refine List.Mem.tail _ ?_))
    (case a => first | assumption | exact allLt_to (by assumption) | exact allLt_to (‹_ ∧ AllLt _ news›).2 | exact allLt_to (‹_ ∧ _ ∧ AllLt _ news›).2.2 | exact allLt_to (‹_ ∧ _ ∧ _ ∧ AllLt _ news›).2.2.2 | exact allLt_to (‹_ ∧ _ ∧ _ ∧ _ ∧ AllLt _ news›).2.2.2.2 | exact allLt_to (‹_ ∧ _ ∧ _ ∧ _ ∧ _ ∧ AllLt _ news›).2.2.2.2.2 | exact allLt_to (‹_ ∧ _ ∧ _ ∧ _ ∧ _ ∧ _ ∧ AllLt _ news›).2.2.2.2.2.2 | exact allLt_to (‹_ ∧ _ ∧ _ ∧ _ ∧ _ ∧ _ ∧ _ ∧ AllLt _ news›).2.2.2.2.2.2.2 | exact allLt_to (‹_ ∧ _ ∧ _ ∧ _ ∧ _ ∧ _ ∧ _ ∧ _ ∧ AllLt _ news›).2.2.2.2.2.2.2.2 | exact allLt_to (‹_ ∧ _ ∧ _ ∧ _ ∧ _ ∧ _ ∧ _ ∧ _ ∧ _ ∧ AllLt _ news›).2.2.2.2.2.2.2.2.2 | exact allLt_to (‹_ ∧ _ ∧ _ ∧ _ ∧ _ ∧ _ ∧ _ ∧ _ ∧ _ ∧ _ ∧ AllLt _ news›).2.2.2.2.2.2.2.2.2.2 | exact allLt_to (‹_ ∧ _ ∧ _ ∧ _ ∧ _ ∧ _ ∧ _ ∧ _ ∧ _ ∧ _ ∧ _ ∧ AllLt _ news›).2.2.2.2.2.2.2.2.2.2.2 | exact allLt_to (‹_ ∧ _ ∧ _ ∧ _ ∧ _ ∧ _ ∧ _ ∧ _ ∧ _ ∧ _ ∧ _ ∧ _ ∧ AllLt _ news›).2.2.2.2.2.2.2.2.2.2.2.2)
    (case b => first | assumption | exact allLt_to (by assumption) | exact allLt_to (‹_ ∧ AllLt _ news›).2 | exact allLt_to (‹_ ∧ _ ∧ AllLt _ news›).2.2 | exact allLt_to (‹_ ∧ _ ∧ _ ∧ AllLt _ news›).2.2.2 | exact allLt_to (‹_ ∧ _ ∧ _ ∧ _ ∧ AllLt _ news›).2.2.2.2 | exact allLt_to (‹_ ∧ _ ∧ _ ∧ _ ∧ _ ∧ AllLt _ news›).2.2.2.2.2 | exact allLt_to (‹_ ∧ _ ∧ _ ∧ _ ∧ _ ∧ _ ∧ AllLt _ news›).2.2.2.2.2.2 | exact allLt_to (‹_ ∧ _ ∧ _ ∧ _ ∧ _ ∧ _ ∧ _ ∧ AllLt _ news›).2.2.2.2.2.2.2 | exact allLt_to (‹_ ∧ _ ∧ _ ∧ _ ∧ _ ∧ _ ∧ _ ∧ _ ∧ AllLt _ news›).2.2.2.2.2.2.2.2 | exact allLt_to (‹_ ∧ _ ∧ _ ∧ _ ∧ _ ∧ _ ∧ _ ∧ _ ∧ _ ∧ AllLt _ news›).2.2.2.2.2.2.2.2.2 | exact allLt_to (‹_ ∧ _ ∧ _ ∧ _ ∧ _ ∧ _ ∧ _ ∧ _ ∧ _ ∧ _ ∧ AllLt _ news›).2.2.2.2.2.2.2.2.2.2 | exact allLt_to (‹_ ∧ _ ∧ _ ∧ _ ∧ _ ∧ _ ∧ _ ∧ _ ∧ _ ∧ _ ∧ _ ∧ AllLt _ news›).2.2.2.2.2.2.2.2.2.2.2 | exact allLt_to (‹_ ∧ _ ∧ _ ∧ _ ∧ _ ∧ _ ∧ _ ∧ _ ∧ _ ∧ _ ∧ _ ∧ _ ∧ AllLt _ news›).2.2.2.2.2.2.2.2.2.2.2.2)

local macro_rules | `(tactic| walk_at "subscriptTail") => `(tactic| (k_here; (with_reducible show wpAny _ _ (subscriptTail _ _ (Value.ref _) (Value.int _ _)) _ _ _); k_dflt (refine' item_sym ?N ?m ?a ?b ?c ?_; (case N => k_asm); (case m => k_mem); (case a => assumption); (case b => omega); (case c => assumption); k_whole)))

set_option maxHeartbeats 8000000 in
theorem flags_ct (w : World) (p : Program) (loose : List Str) (mean : ExcName → Option Value) (mg mb : Str → Option Value) (k : Int) (C : Addr) (t : vTok) (h0 : 0 ≤ k) (h12 : k < 12) (hr : ([Value.ref 61, Value.ref 75, Value.ref 89, Value.ref 103, Value.ref 117, Value.ref 131, Value.ref 145, Value.ref 159, Value.ref 173, Value.ref 187, Value.ref 199, Value.ref 211] : List Value)[k.toNat]? = some (Value.ref C)) :
    Ct w p loose mean mg mb 241 2 [.int k t] (fun v ex => v = .ref C ∧ ex = []) := by
  unfold Ct prg
  k_fill
  intro dp un gd cn cs a ccd cl outer A₀ base h₀ L m news s Q E B F X N T hk hd hu hret
  refine wpAny_call ?_
  k_dflt cell_enter
  k_steps
  all_goals exact hret _ [] _ _ ⟨rfl, rfl⟩ (fun _ h => nomatch h) (by k_asm) (cb_drop (by assumption) (fun q hq => List.Mem.tail _ hq))
end Mine
end
section
open PySem PySem.W PyProof.Rows PySem.Calls
namespace Mine
local macro_rules | `(tactic| k_room) => `(tactic| ktr_room)
local macro_rules | `(tactic| k_units) => `(tactic| ktr_units)
theorem p256_cast (n : Nat) : (256 : Int) ^ n = ((256 ^ n : Nat) : Int) := by
  induction n with
  | zero => rfl
  | succ n ih => rw [Int.pow_succ, ih, Nat.pow_succ, Int.natCast_mul]; rfl
theorem p256_ne (n : Nat) : (256 : Int) ^ n ≠ 0 := by
  have h : 0 < 256 ^ n := Nat.pow_pos (by decide)
  rw [p256_cast]
  omega
theorem p256_log {k : Int} (h : k < 1000) : ((256 : Int) ^ k.toNat).natAbs.log2 < 9000 := by
  rw [p256_cast, Int.natAbs_natCast]
  refine (Nat.log2_lt (Nat.ne_of_gt (Nat.pow_pos (by decide)))).mpr ?_
  rw [show (256 : Nat) = 2 ^ 8 from rfl, ← Nat.pow_mul]
  exact Nat.pow_lt_pow_right (by decide) (by omega)
local macro_rules | `(tactic| walk_at "binaryOp FloorDiv int int") => `(tactic| ((with_reducible refine floordiv_int ?kbe ?_ (Or.inl (PyProof.noPylong_of_log2 ?kbp))); (case kbe => exact p256_ne _); (case kbp => exact p256_log (by omega))))
local macro_rules | `(tactic| walk_at "binaryOp Mod int int") => `(tactic| ((with_reducible refine mod_int' ?kbe ?_); (case kbe => exact p256_ne _)))
local macro_rules | `(tactic| walk_at "binaryOp Mod int int") => `(tactic| ((with_reducible refine mod_int' ?kbe ?_); (case kbe => decide)))

/-- the law's octets of x in wd places -/
def octInts (x wd : Int) : List Int := (rangeKs 0 (wd - 0).toNat).map fun k' => ((x.fmod (256 ^ wd.toNat)).fdiv (256 ^ k'.toNat)).fmod 256

set_option maxHeartbeats 8000000 in
theorem octets_ct (w : World) (p : Program) (loose : List Str) (mean : ExcName → Option Value) (mg mb : Str → Option Value) (x wd : Int) (t t' : vTok) (hw0 : 1 ≤ wd) (hw8 : wd ≤ 8) :
    Ct w p loose mean mg mb 246 2 [.int x t, .int wd t'] (fun v ex => ∃ D ys, v = .ref D ∧ IntsAre ys (octInts x wd) ∧ ex = [(D, LCg.lst ys)]) := by
  unfold Ct prg
  k_fill
  intro dp un gd cn cs a ccd cl outer A₀ base h₀ L m news s Q E B F X N T hk hd hu hret
  refine wpAny_call ?_
  k_dflt (refine' code_defC ?k1 ?k2 ?k3 ?k4 ?k5 ?kA ?kF ?kK ?k6 ?k7 ?k8 ?k9 ?kB ?kD ?_ ?c2 ?c3 ?c4; (case kA => exact rfl); (case kF => exact rfl); (case kK => assumption); (case k1 => k_asm); (case k2 => k_asm); (case k3 => k_asm); (case k4 => k_asm); (case k5 => k_asm); (case k6 => k_is); (case k7 => k_is); (case k8 => ktr_room); (case k9 => exact BindsTo.of_eq rfl); (case kB => exact rfl); (case kD => decide +kernel); (case c2 => exact rfl); (case c3 => exact rfl); (case c4 => exact rfl); k_whole; intro g' L' h' tk' cells' FG' F' N' Y' B' X' T' l1; (try k_lt l1); k_cells Y'; (try simp only [List.cons_append, List.nil_append] at N'); (try dsimp only); (try k_lift B'); (try k_fold))
  k_steps
  rename_i hI8 hL8 D9 h9 tk9 F9 N9 o19 kF kN Tc kX
  exact hret _ [(_, _)] _ _ ⟨_, _, rfl, hI8, rfl⟩ (List.forall_mem_cons.mpr ⟨o19.2.2, List.forall_mem_nil _⟩) (by k_asm) (cb_drop kN (List.forall_mem_cons.mpr ⟨List.Mem.head _, fun q hq => .tail _ (.tail _ (.tail _ hq))⟩))

end Mine
end
section
open PySem PySem.W PyProof.Rows PySem.Calls PyProof
namespace Mine
theorem plainAttrs_S : PlainAttrs "_struct.Struct" :=
  ⟨⟨"_struct.Struct.__getattribute__", by rw [typeLookup_type, builtinLookup_eq_fast]; kernel_rfl, by decide +kernel⟩, by rw [typeLookup_type, builtinLookup_eq_fast]; kernel_rfl⟩
theorem slot_S_pack : SlotG "_struct.Struct" "pack" "_struct.Struct.pack" :=
  .of (owner := "_struct.Struct") (n := "pack") (by rw [typeLookup_type, builtinLookup_eq_fast]; kernel_rfl) (by decide +kernel) (by decide +kernel) (by decide +kernel)
    (by first | exact .inl (by decide +kernel) | exact .inr (by decide +kernel)) (by rw [isSubtype_type]; kernel_rfl)
theorem type_S_pack : typeOf (.builtin "_struct.Struct.pack") = pure (.type "method_descriptor") := by show builtinType _ = _; rw [builtinType_eq_fast]; kernel_rfl
theorem slot_S_unpack : Slot "_struct.Struct" "unpack_from" "_struct.Struct.unpack_from" :=
  .of (owner := "_struct.Struct") (n := "unpack_from") (by rw [typeLookup_type, builtinLookup_eq_fast]; kernel_rfl) (by decide +kernel) (by decide +kernel) (by decide +kernel)
    (by first | exact .inl (by decide +kernel) | exact .inr (by decide +kernel)) (by rw [isSubtype_type]; kernel_rfl)
theorem type_S_unpack : typeOf (.builtin "_struct.Struct.unpack_from") = pure (.type "method_descriptor") := by show builtinType _ = _; rw [builtinType_eq_fast]; kernel_rfl
theorem entry_S_pack : entryFor table "_struct.Struct.pack" = some Builtin.«_struct.Struct.pack» := by
  first | exact entryFor_of_fast (by kernel_rfl) | exact entryFor_of_tree (by kernel_rfl)
theorem entry_S_unpack : entryFor table "_struct.Struct.unpack_from" = some Builtin.«_struct.Struct.unpack_from» := by
  first | exact entryFor_of_fast (by kernel_rfl) | exact entryFor_of_tree (by kernel_rfl)
theorem owner_S : Manifest.owners.lookup (String.ofList ['t', 'c', 'u', 'r', 't', 'S', '.', 't', 'c', 'u', 'r', 't', 's', '_'].reverse) = some Manifest.sig__struct_Struct := by kernel_rfl
theorem args_S_pack (a b : Value) : argsOk "_struct.Struct.pack" ⟨[a, b], []⟩ := by
  unfold argsOk; rw [signature?_of (id := "_struct.Struct.pack") (n := ['k', 'c', 'a', 'p']) (o := ['t', 'c', 'u', 'r', 't', 'S', '.', 't', 'c', 'u', 'r', 't', 's', '_']) (by kernel_rfl) owner_S]; kernel_rfl
theorem args_S_unpack (a b c : Value) : argsOk "_struct.Struct.unpack_from" ⟨[a, b, c], []⟩ := by
  unfold argsOk; rw [signature?_of (id := "_struct.Struct.unpack_from") (n := ['m', 'o', 'r', 'f', '_', 'k', 'c', 'a', 'p', 'n', 'u']) (o := ['t', 'c', 'u', 'r', 't', 'S', '.', 't', 'c', 'u', 'r', 't', 's', '_']) (by kernel_rfl) owner_S]; kernel_rfl
end Mine
end
section
open PySem PySem.W PyProof.Rows PySem.Calls PyProof
namespace Mine
section
variable {M : Model} {A : Around} {E : Value → Shared → Prop} {s : Shared} {p : Addr} {fmt : Array UInt8} {tk t u : PySem.Tok} {x : Int} {b : Array UInt8} {f : Builtin.Struct.Format} {Q : Fin → Shared → Prop}
theorem format_run {R : Array UInt8 × Builtin.Struct.Format → Shared → Prop} (ho : s.heap.get? p = some ⟨.type "_struct.Struct", none, .fields #[.bytes fmt tk], #[]⟩) (hp : Builtin.Struct.parse fmt = pure f) (h : R (fmt, f) s) :
    wpAny M A (Builtin.Struct.structFormat (.ref p)) R E s := by
  unfold Builtin.Struct.structFormat
  refine wpAny_bind (wpAny_field ho rfl (show (#[Value.bytes fmt tk] : Array Value)[0]? = some (Value.bytes fmt tk) from rfl) ?_)
  rw [if_neg (show ¬ ((Value.bytes fmt tk == Value.none) = true) from by simp)]
  refine wpAny_bind (m := Builtin.Bytes.payload (.bytes fmt tk)) (wpAny_pure ?_)
  rw [hp]
  exact wpAny_pure h
theorem pack_run (ho : s.heap.get? p = some ⟨.type "_struct.Struct", none, .fields #[.bytes fmt tk], #[]⟩) (hp : Builtin.Struct.parse fmt = pure f)
    (h : wpAny M A (Builtin.Struct.packed "_struct.Struct.pack" "pack" f [.int x t]) Q E s) : wpAny M A (Builtin.«_struct.Struct.pack» ⟨[.ref p, .int x t], []⟩) Q E s := by
  unfold Builtin.«_struct.Struct.pack»
  refine wpAny_bind (m := noKeywords "Struct.pack" _) (wpAny_pure ?_)
  exact wpAny_bind (format_run ho hp h)
theorem unpack_bound (v : Value) : Builtin.Bytes.bindOptional "_struct.Struct.unpack_from" "unpack_from" ["buffer", "offset"] [v, .int 0 u] [] = pure [some v, some (.int 0 u)] := by kernel_rfl
theorem unpack_run (ho : s.heap.get? p = some ⟨.type "_struct.Struct", none, .fields #[.bytes fmt tk], #[]⟩) (hp : Builtin.Struct.parse fmt = pure f) (hs : b.size = f.size)
    (h : wpAny M A (Builtin.Struct.unpacked "_struct.Struct.unpack_from" f b 0) (fun v s' => Q (.done (.ret v)) s') E s) : wpAny M A (Builtin.«_struct.Struct.unpack_from» ⟨[.ref p, .bytes b t, .int 0 u], []⟩) Q E s := by
  unfold Builtin.«_struct.Struct.unpack_from»
  refine wpAny_bind (wpAny_of_eq (unpack_bound _) ?_)
  show wpAny M A (Builtin.Struct.unpackFrom "_struct.Struct.unpack_from" _ (.bytes b t) (some (.int 0 u))) Q E s
  unfold Builtin.Struct.unpackFrom
  refine wpAny_bind (wpAny_of_eq PySem.W.KBd.like_eq ?_)
  refine wpAny_bind (wpAny_bind (m := Builtin.Bytes.indexHeld [.bytes b t] (.int 0 u)) (wpAny_of_eq (a := (0 : Int)) (by kernel_rfl) ?_))
  refine wpAny_pure ?_
  rw [if_neg (show ¬ ((!Builtin.Bytes.fitsIndex 0) = true) from by decide)]
  refine wpAny_bind (wpAny_pure ?_)
  refine wpAny_bind (wpAny_bind (format_run ho hp (wpAny_pure ?_)))
  show wpAny M A (Builtin.Bytes.bytesLike _ (.bytes b t) >>= fun b => _) Q E s
  refine wpAny_bind (wpAny_of_eq PySem.W.KBd.like_eq ?_)
  have e : Builtin.Struct.placeIn "unpack_from" "unpacking" "not enough data to unpack" f b.size 0 = pure 0 := by
    unfold Builtin.Struct.placeIn
    rw [if_neg (by decide)]
    show (if (b.size : Int) - 0 < (f.size : Int) then _ else _) = _
    rw [if_neg (by omega)]
    rfl
  refine wpAny_bind (wpAny_of_eq e ?_)
  exact wpAny_bind (wpAny_mono h (fun v s' hv => wpAny_pure hv) fun _ _ y => y)
end
theorem parse_B : Builtin.Struct.parse #[60, 66] = pure ⟨false, false, [⟨'B', 1, 0, 1⟩], 1, 1⟩ := by kernel_rfl
set_option maxHeartbeats 2000000 in
theorem packed_B {M : Model} {A : Around} {E : Value → Shared → Prop} {s : Shared} {Q : Fin → Shared → Prop} {x : Int} {t : PySem.Tok} (h0 : 0 ≤ x) (h1 : x ≤ 255) (h : Q (.done (.ret (.bytes (Builtin.Struct.intBytes false 1 x) s.toks))) { s with toks := s.toks + 1 }) :
    wpAny M A (Builtin.Struct.packed "_struct.Struct.pack" "pack" ⟨false, false, [⟨'B', 1, 0, 1⟩], 1, 1⟩ [.int x t]) Q E s := by
  obtain ⟨hp, g, d, tk, os⟩ := s
  unfold Builtin.Struct.packed Builtin.Struct.packEach
  simp only [Std.Legacy.Range.forIn_eq_forIn_range', Std.Legacy.Range.size]
  repeat (first
    | with_reducible refine wpAny_bind ?_
    | with_reducible refine wpAny_pure ?_
    | with_reducible refine wpAny_attempt ?_
    | with_reducible refine wpAny_fresh' ?_
    | with_reducible refine wpAny_mkInt' ?_
    | with_reducible refine wpAny_alloc' ?_
    | with_reducible refine P.truthy_int ?_
    | with_reducible refine wpAny_of_eq PySem.W.KBd.like_eq ?_
    | ((with_reducible refine wpAny_ite_false ?hc ?_); (case hc => first | (simp [*]; done) | rfl))
    | ((with_reducible refine wpAny_ite_true ?hc ?_); (case hc => first | (simp [*]; done) | rfl))
    | wp_delta
    | with_reducible_and_instances refine wpAny_pure ?_
    | with_reducible_and_instances refine wpAny_bind ?_)
  refine Eq.mp ?_ h
  kernel_rfl
set_option maxHeartbeats 2000000 in
theorem unpacked_B {M : Model} {A : Around} {E : Value → Shared → Prop} {s : Shared} {Q : Value → Shared → Prop} {b : Array UInt8}
    (h : Q (.ref s.heap.objs.size) { s with heap := s.heap.push { cls := .type "tuple", data := .seq [Value.int (if ('B'.isLower && decide (Builtin.Struct.natOf false (b.extract (0 + 0 + 0 * 1) (0 + 0 + (0 + 1) * 1)) ≥ 2 ^ (8 * 1 - 1))) = true then (Builtin.Struct.natOf false (b.extract (0 + 0 + 0 * 1) (0 + 0 + (0 + 1) * 1)) : Int) - 2 ^ (8 * 1) else Builtin.Struct.natOf false (b.extract (0 + 0 + 0 * 1) (0 + 0 + (0 + 1) * 1))) s.toks].toArray }, toks := s.toks + 1 }) :
    wpAny M A (Builtin.Struct.unpacked "_struct.Struct.unpack_from" ⟨false, false, [⟨'B', 1, 0, 1⟩], 1, 1⟩ b 0) Q E s := by
  obtain ⟨hp, g, d, tk, os⟩ := s
  unfold Builtin.Struct.unpacked
  simp only [Std.Legacy.Range.forIn_eq_forIn_range', Std.Legacy.Range.size]
  repeat (first
    | with_reducible refine wpAny_bind ?_
    | with_reducible refine wpAny_pure ?_
    | with_reducible refine wpAny_attempt ?_
    | with_reducible refine wpAny_fresh' ?_
    | with_reducible refine wpAny_mkInt' ?_
    | with_reducible refine wpAny_alloc' ?_
    | with_reducible refine P.truthy_int ?_
    | with_reducible refine wpAny_of_eq PySem.W.KBd.like_eq ?_
    | ((with_reducible refine wpAny_ite_false ?hc ?_); (case hc => first | (simp [*]; done) | rfl))
    | ((with_reducible refine wpAny_ite_true ?hc ?_); (case hc => first | (simp [*]; done) | rfl))
    | wp_delta
    | with_reducible_and_instances refine wpAny_pure ?_
    | with_reducible_and_instances refine wpAny_bind ?_)
  refine Eq.mp ?_ h
  kernel_rfl
theorem parse_H : Builtin.Struct.parse #[60, 72] = pure ⟨false, false, [⟨'H', 1, 0, 2⟩], 2, 1⟩ := by kernel_rfl
set_option maxHeartbeats 2000000 in
theorem packed_H {M : Model} {A : Around} {E : Value → Shared → Prop} {s : Shared} {Q : Fin → Shared → Prop} {x : Int} {t : PySem.Tok} (h0 : 0 ≤ x) (h1 : x ≤ 65535) (h : Q (.done (.ret (.bytes (Builtin.Struct.intBytes false 2 x) s.toks))) { s with toks := s.toks + 1 }) :
    wpAny M A (Builtin.Struct.packed "_struct.Struct.pack" "pack" ⟨false, false, [⟨'H', 1, 0, 2⟩], 2, 1⟩ [.int x t]) Q E s := by
  obtain ⟨hp, g, d, tk, os⟩ := s
  unfold Builtin.Struct.packed Builtin.Struct.packEach
  simp only [Std.Legacy.Range.forIn_eq_forIn_range', Std.Legacy.Range.size]
  repeat (first
    | with_reducible refine wpAny_bind ?_
    | with_reducible refine wpAny_pure ?_
    | with_reducible refine wpAny_attempt ?_
    | with_reducible refine wpAny_fresh' ?_
    | with_reducible refine wpAny_mkInt' ?_
    | with_reducible refine wpAny_alloc' ?_
    | with_reducible refine P.truthy_int ?_
    | with_reducible refine wpAny_of_eq PySem.W.KBd.like_eq ?_
    | ((with_reducible refine wpAny_ite_false ?hc ?_); (case hc => first | (simp [*]; done) | rfl))
    | ((with_reducible refine wpAny_ite_true ?hc ?_); (case hc => first | (simp [*]; done) | rfl))
    | wp_delta
    | with_reducible_and_instances refine wpAny_pure ?_
    | with_reducible_and_instances refine wpAny_bind ?_)
  refine Eq.mp ?_ h
  kernel_rfl
set_option maxHeartbeats 2000000 in
theorem unpacked_H {M : Model} {A : Around} {E : Value → Shared → Prop} {s : Shared} {Q : Value → Shared → Prop} {b : Array UInt8}
    (h : Q (.ref s.heap.objs.size) { s with heap := s.heap.push { cls := .type "tuple", data := .seq [Value.int (if ('H'.isLower && decide (Builtin.Struct.natOf false (b.extract (0 + 0 + 0 * 2) (0 + 0 + (0 + 1) * 2)) ≥ 2 ^ (8 * 2 - 1))) = true then (Builtin.Struct.natOf false (b.extract (0 + 0 + 0 * 2) (0 + 0 + (0 + 1) * 2)) : Int) - 2 ^ (8 * 2) else Builtin.Struct.natOf false (b.extract (0 + 0 + 0 * 2) (0 + 0 + (0 + 1) * 2))) s.toks].toArray }, toks := s.toks + 1 }) :
    wpAny M A (Builtin.Struct.unpacked "_struct.Struct.unpack_from" ⟨false, false, [⟨'H', 1, 0, 2⟩], 2, 1⟩ b 0) Q E s := by
  obtain ⟨hp, g, d, tk, os⟩ := s
  unfold Builtin.Struct.unpacked
  simp only [Std.Legacy.Range.forIn_eq_forIn_range', Std.Legacy.Range.size]
  repeat (first
    | with_reducible refine wpAny_bind ?_
    | with_reducible refine wpAny_pure ?_
    | with_reducible refine wpAny_attempt ?_
    | with_reducible refine wpAny_fresh' ?_
    | with_reducible refine wpAny_mkInt' ?_
    | with_reducible refine wpAny_alloc' ?_
    | with_reducible refine P.truthy_int ?_
    | with_reducible refine wpAny_of_eq PySem.W.KBd.like_eq ?_
    | ((with_reducible refine wpAny_ite_false ?hc ?_); (case hc => first | (simp [*]; done) | rfl))
    | ((with_reducible refine wpAny_ite_true ?hc ?_); (case hc => first | (simp [*]; done) | rfl))
    | wp_delta
    | with_reducible_and_instances refine wpAny_pure ?_
    | with_reducible_and_instances refine wpAny_bind ?_)
  refine Eq.mp ?_ h
  kernel_rfl
theorem parse_I : Builtin.Struct.parse #[60, 73] = pure ⟨false, false, [⟨'I', 1, 0, 4⟩], 4, 1⟩ := by kernel_rfl
set_option maxHeartbeats 2000000 in
theorem packed_I {M : Model} {A : Around} {E : Value → Shared → Prop} {s : Shared} {Q : Fin → Shared → Prop} {x : Int} {t : PySem.Tok} (h0 : 0 ≤ x) (h1 : x ≤ 4294967295) (h : Q (.done (.ret (.bytes (Builtin.Struct.intBytes false 4 x) s.toks))) { s with toks := s.toks + 1 }) :
    wpAny M A (Builtin.Struct.packed "_struct.Struct.pack" "pack" ⟨false, false, [⟨'I', 1, 0, 4⟩], 4, 1⟩ [.int x t]) Q E s := by
  obtain ⟨hp, g, d, tk, os⟩ := s
  unfold Builtin.Struct.packed Builtin.Struct.packEach
  simp only [Std.Legacy.Range.forIn_eq_forIn_range', Std.Legacy.Range.size]
  repeat (first
    | with_reducible refine wpAny_bind ?_
    | with_reducible refine wpAny_pure ?_
    | with_reducible refine wpAny_attempt ?_
    | with_reducible refine wpAny_fresh' ?_
    | with_reducible refine wpAny_mkInt' ?_
    | with_reducible refine wpAny_alloc' ?_
    | with_reducible refine P.truthy_int ?_
    | with_reducible refine wpAny_of_eq PySem.W.KBd.like_eq ?_
    | ((with_reducible refine wpAny_ite_false ?hc ?_); (case hc => first | (simp [*]; done) | rfl))
    | ((with_reducible refine wpAny_ite_true ?hc ?_); (case hc => first | (simp [*]; done) | rfl))
    | wp_delta
    | with_reducible_and_instances refine wpAny_pure ?_
    | with_reducible_and_instances refine wpAny_bind ?_)
  refine Eq.mp ?_ h
  kernel_rfl
set_option maxHeartbeats 2000000 in
theorem unpacked_I {M : Model} {A : Around} {E : Value → Shared → Prop} {s : Shared} {Q : Value → Shared → Prop} {b : Array UInt8}
    (h : Q (.ref s.heap.objs.size) { s with heap := s.heap.push { cls := .type "tuple", data := .seq [Value.int (if ('I'.isLower && decide (Builtin.Struct.natOf false (b.extract (0 + 0 + 0 * 4) (0 + 0 + (0 + 1) * 4)) ≥ 2 ^ (8 * 4 - 1))) = true then (Builtin.Struct.natOf false (b.extract (0 + 0 + 0 * 4) (0 + 0 + (0 + 1) * 4)) : Int) - 2 ^ (8 * 4) else Builtin.Struct.natOf false (b.extract (0 + 0 + 0 * 4) (0 + 0 + (0 + 1) * 4))) s.toks].toArray }, toks := s.toks + 1 }) :
    wpAny M A (Builtin.Struct.unpacked "_struct.Struct.unpack_from" ⟨false, false, [⟨'I', 1, 0, 4⟩], 4, 1⟩ b 0) Q E s := by
  obtain ⟨hp, g, d, tk, os⟩ := s
  unfold Builtin.Struct.unpacked
  simp only [Std.Legacy.Range.forIn_eq_forIn_range', Std.Legacy.Range.size]
  repeat (first
    | with_reducible refine wpAny_bind ?_
    | with_reducible refine wpAny_pure ?_
    | with_reducible refine wpAny_attempt ?_
    | with_reducible refine wpAny_fresh' ?_
    | with_reducible refine wpAny_mkInt' ?_
    | with_reducible refine wpAny_alloc' ?_
    | with_reducible refine P.truthy_int ?_
    | with_reducible refine wpAny_of_eq PySem.W.KBd.like_eq ?_
    | ((with_reducible refine wpAny_ite_false ?hc ?_); (case hc => first | (simp [*]; done) | rfl))
    | ((with_reducible refine wpAny_ite_true ?hc ?_); (case hc => first | (simp [*]; done) | rfl))
    | wp_delta
    | with_reducible_and_instances refine wpAny_pure ?_
    | with_reducible_and_instances refine wpAny_bind ?_)
  refine Eq.mp ?_ h
  kernel_rfl
theorem parse_Q : Builtin.Struct.parse #[60, 81] = pure ⟨false, false, [⟨'Q', 1, 0, 8⟩], 8, 1⟩ := by kernel_rfl
set_option maxHeartbeats 2000000 in
theorem packed_Q {M : Model} {A : Around} {E : Value → Shared → Prop} {s : Shared} {Q : Fin → Shared → Prop} {x : Int} {t : PySem.Tok} (h0 : 0 ≤ x) (h1 : x ≤ 18446744073709551615) (h : Q (.done (.ret (.bytes (Builtin.Struct.intBytes false 8 x) s.toks))) { s with toks := s.toks + 1 }) :
    wpAny M A (Builtin.Struct.packed "_struct.Struct.pack" "pack" ⟨false, false, [⟨'Q', 1, 0, 8⟩], 8, 1⟩ [.int x t]) Q E s := by
  obtain ⟨hp, g, d, tk, os⟩ := s
  unfold Builtin.Struct.packed Builtin.Struct.packEach
  simp only [Std.Legacy.Range.forIn_eq_forIn_range', Std.Legacy.Range.size]
  repeat (first
    | with_reducible refine wpAny_bind ?_
    | with_reducible refine wpAny_pure ?_
    | with_reducible refine wpAny_attempt ?_
    | with_reducible refine wpAny_fresh' ?_
    | with_reducible refine wpAny_mkInt' ?_
    | with_reducible refine wpAny_alloc' ?_
    | with_reducible refine P.truthy_int ?_
    | with_reducible refine wpAny_of_eq PySem.W.KBd.like_eq ?_
    | ((with_reducible refine wpAny_ite_false ?hc ?_); (case hc => first | (simp [*]; done) | rfl))
    | ((with_reducible refine wpAny_ite_true ?hc ?_); (case hc => first | (simp [*]; done) | rfl))
    | wp_delta
    | with_reducible_and_instances refine wpAny_pure ?_
    | with_reducible_and_instances refine wpAny_bind ?_)
  refine Eq.mp ?_ h
  kernel_rfl
set_option maxHeartbeats 2000000 in
theorem unpacked_Q {M : Model} {A : Around} {E : Value → Shared → Prop} {s : Shared} {Q : Value → Shared → Prop} {b : Array UInt8}
    (h : Q (.ref s.heap.objs.size) { s with heap := s.heap.push { cls := .type "tuple", data := .seq [Value.int (if ('Q'.isLower && decide (Builtin.Struct.natOf false (b.extract (0 + 0 + 0 * 8) (0 + 0 + (0 + 1) * 8)) ≥ 2 ^ (8 * 8 - 1))) = true then (Builtin.Struct.natOf false (b.extract (0 + 0 + 0 * 8) (0 + 0 + (0 + 1) * 8)) : Int) - 2 ^ (8 * 8) else Builtin.Struct.natOf false (b.extract (0 + 0 + 0 * 8) (0 + 0 + (0 + 1) * 8))) s.toks].toArray }, toks := s.toks + 1 }) :
    wpAny M A (Builtin.Struct.unpacked "_struct.Struct.unpack_from" ⟨false, false, [⟨'Q', 1, 0, 8⟩], 8, 1⟩ b 0) Q E s := by
  obtain ⟨hp, g, d, tk, os⟩ := s
  unfold Builtin.Struct.unpacked
  simp only [Std.Legacy.Range.forIn_eq_forIn_range', Std.Legacy.Range.size]
  repeat (first
    | with_reducible refine wpAny_bind ?_
    | with_reducible refine wpAny_pure ?_
    | with_reducible refine wpAny_attempt ?_
    | with_reducible refine wpAny_fresh' ?_
    | with_reducible refine wpAny_mkInt' ?_
    | with_reducible refine wpAny_alloc' ?_
    | with_reducible refine P.truthy_int ?_
    | with_reducible refine wpAny_of_eq PySem.W.KBd.like_eq ?_
    | ((with_reducible refine wpAny_ite_false ?hc ?_); (case hc => first | (simp [*]; done) | rfl))
    | ((with_reducible refine wpAny_ite_true ?hc ?_); (case hc => first | (simp [*]; done) | rfl))
    | wp_delta
    | with_reducible_and_instances refine wpAny_pure ?_
    | with_reducible_and_instances refine wpAny_bind ?_)
  refine Eq.mp ?_ h
  kernel_rfl
theorem parse_b : Builtin.Struct.parse #[60, 98] = pure ⟨false, false, [⟨'b', 1, 0, 1⟩], 1, 1⟩ := by kernel_rfl
set_option maxHeartbeats 2000000 in
theorem packed_b {M : Model} {A : Around} {E : Value → Shared → Prop} {s : Shared} {Q : Fin → Shared → Prop} {x : Int} {t : PySem.Tok} (h0 : -128 ≤ x) (h1 : x ≤ 127) (h : Q (.done (.ret (.bytes (Builtin.Struct.intBytes false 1 x) s.toks))) { s with toks := s.toks + 1 }) :
    wpAny M A (Builtin.Struct.packed "_struct.Struct.pack" "pack" ⟨false, false, [⟨'b', 1, 0, 1⟩], 1, 1⟩ [.int x t]) Q E s := by
  obtain ⟨hp, g, d, tk, os⟩ := s
  unfold Builtin.Struct.packed Builtin.Struct.packEach
  simp only [Std.Legacy.Range.forIn_eq_forIn_range', Std.Legacy.Range.size]
  repeat (first
    | with_reducible refine wpAny_bind ?_
    | with_reducible refine wpAny_pure ?_
    | with_reducible refine wpAny_attempt ?_
    | with_reducible refine wpAny_fresh' ?_
    | with_reducible refine wpAny_mkInt' ?_
    | with_reducible refine wpAny_alloc' ?_
    | with_reducible refine P.truthy_int ?_
    | with_reducible refine wpAny_of_eq PySem.W.KBd.like_eq ?_
    | ((with_reducible refine wpAny_ite_false ?hc ?_); (case hc => first | (simp [*]; done) | rfl))
    | ((with_reducible refine wpAny_ite_true ?hc ?_); (case hc => first | (simp [*]; done) | rfl))
    | wp_delta
    | with_reducible_and_instances refine wpAny_pure ?_
    | with_reducible_and_instances refine wpAny_bind ?_)
  refine Eq.mp ?_ h
  kernel_rfl
set_option maxHeartbeats 2000000 in
theorem unpacked_b {M : Model} {A : Around} {E : Value → Shared → Prop} {s : Shared} {Q : Value → Shared → Prop} {b : Array UInt8}
    (h : Q (.ref s.heap.objs.size) { s with heap := s.heap.push { cls := .type "tuple", data := .seq [Value.int (if ('b'.isLower && decide (Builtin.Struct.natOf false (b.extract (0 + 0 + 0 * 1) (0 + 0 + (0 + 1) * 1)) ≥ 2 ^ (8 * 1 - 1))) = true then (Builtin.Struct.natOf false (b.extract (0 + 0 + 0 * 1) (0 + 0 + (0 + 1) * 1)) : Int) - 2 ^ (8 * 1) else Builtin.Struct.natOf false (b.extract (0 + 0 + 0 * 1) (0 + 0 + (0 + 1) * 1))) s.toks].toArray }, toks := s.toks + 1 }) :
    wpAny M A (Builtin.Struct.unpacked "_struct.Struct.unpack_from" ⟨false, false, [⟨'b', 1, 0, 1⟩], 1, 1⟩ b 0) Q E s := by
  obtain ⟨hp, g, d, tk, os⟩ := s
  unfold Builtin.Struct.unpacked
  simp only [Std.Legacy.Range.forIn_eq_forIn_range', Std.Legacy.Range.size]
  repeat (first
    | with_reducible refine wpAny_bind ?_
    | with_reducible refine wpAny_pure ?_
    | with_reducible refine wpAny_attempt ?_
    | with_reducible refine wpAny_fresh' ?_
    | with_reducible refine wpAny_mkInt' ?_
    | with_reducible refine wpAny_alloc' ?_
    | with_reducible refine P.truthy_int ?_
    | with_reducible refine wpAny_of_eq PySem.W.KBd.like_eq ?_
    | ((with_reducible refine wpAny_ite_false ?hc ?_); (case hc => first | (simp [*]; done) | rfl))
    | ((with_reducible refine wpAny_ite_true ?hc ?_); (case hc => first | (simp [*]; done) | rfl))
    | wp_delta
    | with_reducible_and_instances refine wpAny_pure ?_
    | with_reducible_and_instances refine wpAny_bind ?_)
  refine Eq.mp ?_ h
  kernel_rfl
theorem parse_h : Builtin.Struct.parse #[60, 104] = pure ⟨false, false, [⟨'h', 1, 0, 2⟩], 2, 1⟩ := by kernel_rfl
set_option maxHeartbeats 2000000 in
theorem packed_h {M : Model} {A : Around} {E : Value → Shared → Prop} {s : Shared} {Q : Fin → Shared → Prop} {x : Int} {t : PySem.Tok} (h0 : -32768 ≤ x) (h1 : x ≤ 32767) (h : Q (.done (.ret (.bytes (Builtin.Struct.intBytes false 2 x) s.toks))) { s with toks := s.toks + 1 }) :
    wpAny M A (Builtin.Struct.packed "_struct.Struct.pack" "pack" ⟨false, false, [⟨'h', 1, 0, 2⟩], 2, 1⟩ [.int x t]) Q E s := by
  obtain ⟨hp, g, d, tk, os⟩ := s
  unfold Builtin.Struct.packed Builtin.Struct.packEach
  simp only [Std.Legacy.Range.forIn_eq_forIn_range', Std.Legacy.Range.size]
  repeat (first
    | with_reducible refine wpAny_bind ?_
    | with_reducible refine wpAny_pure ?_
    | with_reducible refine wpAny_attempt ?_
    | with_reducible refine wpAny_fresh' ?_
    | with_reducible refine wpAny_mkInt' ?_
    | with_reducible refine wpAny_alloc' ?_
    | with_reducible refine P.truthy_int ?_
    | with_reducible refine wpAny_of_eq PySem.W.KBd.like_eq ?_
    | ((with_reducible refine wpAny_ite_false ?hc ?_); (case hc => first | (simp [*]; done) | rfl))
    | ((with_reducible refine wpAny_ite_true ?hc ?_); (case hc => first | (simp [*]; done) | rfl))
    | wp_delta
    | with_reducible_and_instances refine wpAny_pure ?_
    | with_reducible_and_instances refine wpAny_bind ?_)
  refine Eq.mp ?_ h
  kernel_rfl
set_option maxHeartbeats 2000000 in
theorem unpacked_h {M : Model} {A : Around} {E : Value → Shared → Prop} {s : Shared} {Q : Value → Shared → Prop} {b : Array UInt8}
    (h : Q (.ref s.heap.objs.size) { s with heap := s.heap.push { cls := .type "tuple", data := .seq [Value.int (if ('h'.isLower && decide (Builtin.Struct.natOf false (b.extract (0 + 0 + 0 * 2) (0 + 0 + (0 + 1) * 2)) ≥ 2 ^ (8 * 2 - 1))) = true then (Builtin.Struct.natOf false (b.extract (0 + 0 + 0 * 2) (0 + 0 + (0 + 1) * 2)) : Int) - 2 ^ (8 * 2) else Builtin.Struct.natOf false (b.extract (0 + 0 + 0 * 2) (0 + 0 + (0 + 1) * 2))) s.toks].toArray }, toks := s.toks + 1 }) :
    wpAny M A (Builtin.Struct.unpacked "_struct.Struct.unpack_from" ⟨false, false, [⟨'h', 1, 0, 2⟩], 2, 1⟩ b 0) Q E s := by
  obtain ⟨hp, g, d, tk, os⟩ := s
  unfold Builtin.Struct.unpacked
  simp only [Std.Legacy.Range.forIn_eq_forIn_range', Std.Legacy.Range.size]
  repeat (first
    | with_reducible refine wpAny_bind ?_
    | with_reducible refine wpAny_pure ?_
    | with_reducible refine wpAny_attempt ?_
    | with_reducible refine wpAny_fresh' ?_
    | with_reducible refine wpAny_mkInt' ?_
    | with_reducible refine wpAny_alloc' ?_
    | with_reducible refine P.truthy_int ?_
    | with_reducible refine wpAny_of_eq PySem.W.KBd.like_eq ?_
    | ((with_reducible refine wpAny_ite_false ?hc ?_); (case hc => first | (simp [*]; done) | rfl))
    | ((with_reducible refine wpAny_ite_true ?hc ?_); (case hc => first | (simp [*]; done) | rfl))
    | wp_delta
    | with_reducible_and_instances refine wpAny_pure ?_
    | with_reducible_and_instances refine wpAny_bind ?_)
  refine Eq.mp ?_ h
  kernel_rfl
theorem parse_i : Builtin.Struct.parse #[60, 105] = pure ⟨false, false, [⟨'i', 1, 0, 4⟩], 4, 1⟩ := by kernel_rfl
set_option maxHeartbeats 2000000 in
theorem packed_i {M : Model} {A : Around} {E : Value → Shared → Prop} {s : Shared} {Q : Fin → Shared → Prop} {x : Int} {t : PySem.Tok} (h0 : -2147483648 ≤ x) (h1 : x ≤ 2147483647) (h : Q (.done (.ret (.bytes (Builtin.Struct.intBytes false 4 x) s.toks))) { s with toks := s.toks + 1 }) :
    wpAny M A (Builtin.Struct.packed "_struct.Struct.pack" "pack" ⟨false, false, [⟨'i', 1, 0, 4⟩], 4, 1⟩ [.int x t]) Q E s := by
  obtain ⟨hp, g, d, tk, os⟩ := s
  unfold Builtin.Struct.packed Builtin.Struct.packEach
  simp only [Std.Legacy.Range.forIn_eq_forIn_range', Std.Legacy.Range.size]
  repeat (first
    | with_reducible refine wpAny_bind ?_
    | with_reducible refine wpAny_pure ?_
    | with_reducible refine wpAny_attempt ?_
    | with_reducible refine wpAny_fresh' ?_
    | with_reducible refine wpAny_mkInt' ?_
    | with_reducible refine wpAny_alloc' ?_
    | with_reducible refine P.truthy_int ?_
    | with_reducible refine wpAny_of_eq PySem.W.KBd.like_eq ?_
    | ((with_reducible refine wpAny_ite_false ?hc ?_); (case hc => first | (simp [*]; done) | rfl))
    | ((with_reducible refine wpAny_ite_true ?hc ?_); (case hc => first | (simp [*]; done) | rfl))
    | wp_delta
    | with_reducible_and_instances refine wpAny_pure ?_
    | with_reducible_and_instances refine wpAny_bind ?_)
  refine Eq.mp ?_ h
  kernel_rfl
set_option maxHeartbeats 2000000 in
theorem unpacked_i {M : Model} {A : Around} {E : Value → Shared → Prop} {s : Shared} {Q : Value → Shared → Prop} {b : Array UInt8}
    (h : Q (.ref s.heap.objs.size) { s with heap := s.heap.push { cls := .type "tuple", data := .seq [Value.int (if ('i'.isLower && decide (Builtin.Struct.natOf false (b.extract (0 + 0 + 0 * 4) (0 + 0 + (0 + 1) * 4)) ≥ 2 ^ (8 * 4 - 1))) = true then (Builtin.Struct.natOf false (b.extract (0 + 0 + 0 * 4) (0 + 0 + (0 + 1) * 4)) : Int) - 2 ^ (8 * 4) else Builtin.Struct.natOf false (b.extract (0 + 0 + 0 * 4) (0 + 0 + (0 + 1) * 4))) s.toks].toArray }, toks := s.toks + 1 }) :
    wpAny M A (Builtin.Struct.unpacked "_struct.Struct.unpack_from" ⟨false, false, [⟨'i', 1, 0, 4⟩], 4, 1⟩ b 0) Q E s := by
  obtain ⟨hp, g, d, tk, os⟩ := s
  unfold Builtin.Struct.unpacked
  simp only [Std.Legacy.Range.forIn_eq_forIn_range', Std.Legacy.Range.size]
  repeat (first
    | with_reducible refine wpAny_bind ?_
    | with_reducible refine wpAny_pure ?_
    | with_reducible refine wpAny_attempt ?_
    | with_reducible refine wpAny_fresh' ?_
    | with_reducible refine wpAny_mkInt' ?_
    | with_reducible refine wpAny_alloc' ?_
    | with_reducible refine P.truthy_int ?_
    | with_reducible refine wpAny_of_eq PySem.W.KBd.like_eq ?_
    | ((with_reducible refine wpAny_ite_false ?hc ?_); (case hc => first | (simp [*]; done) | rfl))
    | ((with_reducible refine wpAny_ite_true ?hc ?_); (case hc => first | (simp [*]; done) | rfl))
    | wp_delta
    | with_reducible_and_instances refine wpAny_pure ?_
    | with_reducible_and_instances refine wpAny_bind ?_)
  refine Eq.mp ?_ h
  kernel_rfl
theorem parse_q : Builtin.Struct.parse #[60, 113] = pure ⟨false, false, [⟨'q', 1, 0, 8⟩], 8, 1⟩ := by kernel_rfl
set_option maxHeartbeats 2000000 in
theorem packed_q {M : Model} {A : Around} {E : Value → Shared → Prop} {s : Shared} {Q : Fin → Shared → Prop} {x : Int} {t : PySem.Tok} (h0 : -9223372036854775808 ≤ x) (h1 : x ≤ 9223372036854775807) (h : Q (.done (.ret (.bytes (Builtin.Struct.intBytes false 8 x) s.toks))) { s with toks := s.toks + 1 }) :
    wpAny M A (Builtin.Struct.packed "_struct.Struct.pack" "pack" ⟨false, false, [⟨'q', 1, 0, 8⟩], 8, 1⟩ [.int x t]) Q E s := by
  obtain ⟨hp, g, d, tk, os⟩ := s
  unfold Builtin.Struct.packed Builtin.Struct.packEach
  simp only [Std.Legacy.Range.forIn_eq_forIn_range', Std.Legacy.Range.size]
  repeat (first
    | with_reducible refine wpAny_bind ?_
    | with_reducible refine wpAny_pure ?_
    | with_reducible refine wpAny_attempt ?_
    | with_reducible refine wpAny_fresh' ?_
    | with_reducible refine wpAny_mkInt' ?_
    | with_reducible refine wpAny_alloc' ?_
    | with_reducible refine P.truthy_int ?_
    | with_reducible refine wpAny_of_eq PySem.W.KBd.like_eq ?_
    | ((with_reducible refine wpAny_ite_false ?hc ?_); (case hc => first | (simp [*]; done) | rfl))
    | ((with_reducible refine wpAny_ite_true ?hc ?_); (case hc => first | (simp [*]; done) | rfl))
    | wp_delta
    | with_reducible_and_instances refine wpAny_pure ?_
    | with_reducible_and_instances refine wpAny_bind ?_)
  refine Eq.mp ?_ h
  kernel_rfl
set_option maxHeartbeats 2000000 in
theorem unpacked_q {M : Model} {A : Around} {E : Value → Shared → Prop} {s : Shared} {Q : Value → Shared → Prop} {b : Array UInt8}
    (h : Q (.ref s.heap.objs.size) { s with heap := s.heap.push { cls := .type "tuple", data := .seq [Value.int (if ('q'.isLower && decide (Builtin.Struct.natOf false (b.extract (0 + 0 + 0 * 8) (0 + 0 + (0 + 1) * 8)) ≥ 2 ^ (8 * 8 - 1))) = true then (Builtin.Struct.natOf false (b.extract (0 + 0 + 0 * 8) (0 + 0 + (0 + 1) * 8)) : Int) - 2 ^ (8 * 8) else Builtin.Struct.natOf false (b.extract (0 + 0 + 0 * 8) (0 + 0 + (0 + 1) * 8))) s.toks].toArray }, toks := s.toks + 1 }) :
    wpAny M A (Builtin.Struct.unpacked "_struct.Struct.unpack_from" ⟨false, false, [⟨'q', 1, 0, 8⟩], 8, 1⟩ b 0) Q E s := by
  obtain ⟨hp, g, d, tk, os⟩ := s
  unfold Builtin.Struct.unpacked
  simp only [Std.Legacy.Range.forIn_eq_forIn_range', Std.Legacy.Range.size]
  repeat (first
    | with_reducible refine wpAny_bind ?_
    | with_reducible refine wpAny_pure ?_
    | with_reducible refine wpAny_attempt ?_
    | with_reducible refine wpAny_fresh' ?_
    | with_reducible refine wpAny_mkInt' ?_
    | with_reducible refine wpAny_alloc' ?_
    | with_reducible refine P.truthy_int ?_
    | with_reducible refine wpAny_of_eq PySem.W.KBd.like_eq ?_
    | ((with_reducible refine wpAny_ite_false ?hc ?_); (case hc => first | (simp [*]; done) | rfl))
    | ((with_reducible refine wpAny_ite_true ?hc ?_); (case hc => first | (simp [*]; done) | rfl))
    | wp_delta
    | with_reducible_and_instances refine wpAny_pure ?_
    | with_reducible_and_instances refine wpAny_bind ?_)
  refine Eq.mp ?_ h
  kernel_rfl
end Mine
end
section
open PySem PySem.W PyProof.Rows PySem.Calls PyProof
namespace Mine
theorem le_list (sz : Nat) : ∀ n : Nat, ((List.range sz).map fun k => (n / 256 ^ k % 256).toUInt8).foldr (fun (c : UInt8) (m : Nat) => m * 256 + c.toNat) 0 = n % 256 ^ sz := by
  induction sz with
  | zero => intro n; simp [Nat.mod_one]
  | succ sz ih =>
    intro n
    rw [List.range_succ_eq_map, List.map_cons, List.foldr_cons, List.map_map]
    have e : (List.range sz).map ((fun k => (n / 256 ^ k % 256).toUInt8) ∘ Nat.succ) = (List.range sz).map fun k => (n / 256 / 256 ^ k % 256).toUInt8 := by
      refine List.map_congr_left fun k _ => ?_
      show (n / 256 ^ (k + 1) % 256).toUInt8 = _
      rw [Nat.pow_succ, Nat.mul_comm, Nat.div_div_eq_div_mul]
    rw [e, ih]
    have h : (n / 256 ^ 0 % 256).toUInt8.toNat = n % 256 := by
      rw [Nat.pow_zero, Nat.div_one]
      show (n % 256) % 256 = n % 256
      exact Nat.mod_mod _ _
    rw [h, Nat.pow_succ, Nat.mul_comm (256 ^ sz) 256, Nat.mod_mul]
    omega
theorem le_back (sz n : Nat) : Builtin.Memoryview.littleEndian (Builtin.Memoryview.toLittleEndian sz n) = n % 256 ^ sz := by
  unfold Builtin.Memoryview.littleEndian Builtin.Memoryview.toLittleEndian
  rw [List.foldr_toArray]
  exact le_list sz n

/-- x in sz octets, the lowest first -/
def octs (sz : Nat) (x : Int) : Array UInt8 := Builtin.Struct.intBytes false sz x
theorem octs_eq (sz : Nat) (x : Int) : octs sz x = Builtin.Memoryview.toLittleEndian sz (x % 2 ^ (8 * sz)).toNat := rfl
theorem octs_size (sz : Nat) (x : Int) : (octs sz x).size = sz := by
  rw [octs_eq]
  unfold Builtin.Memoryview.toLittleEndian
  simp
theorem octs_whole (sz : Nat) (x : Int) : (octs sz x).extract (0 + 0 + 0 * sz) (0 + 0 + (0 + 1) * sz) = octs sz x := by
  have e : (octs sz x).extract 0 (octs sz x).size = octs sz x := Array.extract_size
  rw [octs_size] at e
  simpa using e
theorem octs_nat (sz : Nat) (x : Int) : Builtin.Struct.natOf false ((octs sz x).extract (0 + 0 + 0 * sz) (0 + 0 + (0 + 1) * sz)) = (x % 2 ^ (8 * sz)).toNat % 256 ^ sz := by
  rw [octs_whole]
  exact le_back sz _

/-- what a packer of the top does within its ends -/
structure Packer (K : Frag) (p : Addr) (sz : Nat) (lo hi : Int) (res : Int → PySem.Tok → Value) : Prop where
  ex : ∃ fmt tk f, K.lookup p = some ⟨.type "_struct.Struct", none, .fields #[.bytes fmt tk], #[]⟩ ∧ Builtin.Struct.parse fmt = pure f ∧ f.size = sz ∧
    (∀ (prog : Program) (w : World) (A : Around) (E : Value → Shared → Prop) (s : Shared) (Q : Fin → Shared → Prop) (x : Int) (t : PySem.Tok), lo ≤ x → x ≤ hi → (∀ t' tk', Q (.done (.ret (.bytes (octs sz x) t'))) { s with toks := tk' }) →
      wpAny (model prog w) A (Builtin.Struct.packed "_struct.Struct.pack" "pack" f [.int x t]) Q E s) ∧
    (∀ (prog : Program) (w : World) (A : Around) (E : Value → Shared → Prop) (s : Shared) (Q : Value → Shared → Prop) (x : Int), lo ≤ x → x ≤ hi → (∀ t' tk', Q (.ref s.heap.objs.size) { s with heap := s.heap.push { cls := .type "tuple", data := .seq [res x t'].toArray }, toks := tk' }) →
      wpAny (model prog w) A (Builtin.Struct.unpacked "_struct.Struct.unpack_from" f (octs sz x) 0) Q E s)
theorem back_B {x : Int} (h0 : 0 ≤ x) (h1 : x ≤ 255) : (if ('B'.isLower && decide (Builtin.Struct.natOf false ((octs 1 x).extract (0 + 0 + 0 * 1) (0 + 0 + (0 + 1) * 1)) ≥ 2 ^ (8 * 1 - 1))) = true then (Builtin.Struct.natOf false ((octs 1 x).extract (0 + 0 + 0 * 1) (0 + 0 + (0 + 1) * 1)) : Int) - (2 : Int) ^ (8 * 1) else (Builtin.Struct.natOf false ((octs 1 x).extract (0 + 0 + 0 * 1) (0 + 0 + (0 + 1) * 1)) : Int)) = x := by
  rw [octs_nat]
  have hl : 'B'.isLower = false := by decide
  rw [hl]
  simp only [Bool.true_and, Bool.false_and, Bool.false_eq_true, if_false, decide_eq_true_eq, ge_iff_le, Nat.reduceMul, Nat.reducePow, Int.reducePow, Nat.reduceSub]
  omega
theorem packer_B {K : Frag} {p : Addr} {tk : PySem.Tok} (h : K.lookup p = some ⟨.type "_struct.Struct", none, .fields #[.bytes #[60, 66] tk], #[]⟩) : Packer K p 1 (0) 255 (fun x t => .int x t) :=
  ⟨_, tk, _, h, parse_B, rfl, fun _ _ _ _ _ _ _ _ h0 h1 hq => packed_B h0 h1 (hq _ _), fun _ _ _ _ s _ x h0 h1 hq => unpacked_B (by rw [back_B h0 h1]; exact hq _ _)⟩
theorem back_H {x : Int} (h0 : 0 ≤ x) (h1 : x ≤ 65535) : (if ('H'.isLower && decide (Builtin.Struct.natOf false ((octs 2 x).extract (0 + 0 + 0 * 2) (0 + 0 + (0 + 1) * 2)) ≥ 2 ^ (8 * 2 - 1))) = true then (Builtin.Struct.natOf false ((octs 2 x).extract (0 + 0 + 0 * 2) (0 + 0 + (0 + 1) * 2)) : Int) - (2 : Int) ^ (8 * 2) else (Builtin.Struct.natOf false ((octs 2 x).extract (0 + 0 + 0 * 2) (0 + 0 + (0 + 1) * 2)) : Int)) = x := by
  rw [octs_nat]
  have hl : 'H'.isLower = false := by decide
  rw [hl]
  simp only [Bool.true_and, Bool.false_and, Bool.false_eq_true, if_false, decide_eq_true_eq, ge_iff_le, Nat.reduceMul, Nat.reducePow, Int.reducePow, Nat.reduceSub]
  omega
theorem packer_H {K : Frag} {p : Addr} {tk : PySem.Tok} (h : K.lookup p = some ⟨.type "_struct.Struct", none, .fields #[.bytes #[60, 72] tk], #[]⟩) : Packer K p 2 (0) 65535 (fun x t => .int x t) :=
  ⟨_, tk, _, h, parse_H, rfl, fun _ _ _ _ _ _ _ _ h0 h1 hq => packed_H h0 h1 (hq _ _), fun _ _ _ _ s _ x h0 h1 hq => unpacked_H (by rw [back_H h0 h1]; exact hq _ _)⟩
theorem back_I {x : Int} (h0 : 0 ≤ x) (h1 : x ≤ 4294967295) : (if ('I'.isLower && decide (Builtin.Struct.natOf false ((octs 4 x).extract (0 + 0 + 0 * 4) (0 + 0 + (0 + 1) * 4)) ≥ 2 ^ (8 * 4 - 1))) = true then (Builtin.Struct.natOf false ((octs 4 x).extract (0 + 0 + 0 * 4) (0 + 0 + (0 + 1) * 4)) : Int) - (2 : Int) ^ (8 * 4) else (Builtin.Struct.natOf false ((octs 4 x).extract (0 + 0 + 0 * 4) (0 + 0 + (0 + 1) * 4)) : Int)) = x := by
  rw [octs_nat]
  have hl : 'I'.isLower = false := by decide
  rw [hl]
  simp only [Bool.true_and, Bool.false_and, Bool.false_eq_true, if_false, decide_eq_true_eq, ge_iff_le, Nat.reduceMul, Nat.reducePow, Int.reducePow, Nat.reduceSub]
  omega
theorem packer_I {K : Frag} {p : Addr} {tk : PySem.Tok} (h : K.lookup p = some ⟨.type "_struct.Struct", none, .fields #[.bytes #[60, 73] tk], #[]⟩) : Packer K p 4 (0) 4294967295 (fun x t => .int x t) :=
  ⟨_, tk, _, h, parse_I, rfl, fun _ _ _ _ _ _ _ _ h0 h1 hq => packed_I h0 h1 (hq _ _), fun _ _ _ _ s _ x h0 h1 hq => unpacked_I (by rw [back_I h0 h1]; exact hq _ _)⟩
theorem back_Q {x : Int} (h0 : 0 ≤ x) (h1 : x ≤ 18446744073709551615) : (if ('Q'.isLower && decide (Builtin.Struct.natOf false ((octs 8 x).extract (0 + 0 + 0 * 8) (0 + 0 + (0 + 1) * 8)) ≥ 2 ^ (8 * 8 - 1))) = true then (Builtin.Struct.natOf false ((octs 8 x).extract (0 + 0 + 0 * 8) (0 + 0 + (0 + 1) * 8)) : Int) - (2 : Int) ^ (8 * 8) else (Builtin.Struct.natOf false ((octs 8 x).extract (0 + 0 + 0 * 8) (0 + 0 + (0 + 1) * 8)) : Int)) = x := by
  rw [octs_nat]
  have hl : 'Q'.isLower = false := by decide
  rw [hl]
  simp only [Bool.true_and, Bool.false_and, Bool.false_eq_true, if_false, decide_eq_true_eq, ge_iff_le, Nat.reduceMul, Nat.reducePow, Int.reducePow, Nat.reduceSub]
  omega
theorem packer_Q {K : Frag} {p : Addr} {tk : PySem.Tok} (h : K.lookup p = some ⟨.type "_struct.Struct", none, .fields #[.bytes #[60, 81] tk], #[]⟩) : Packer K p 8 (0) 18446744073709551615 (fun x t => .int x t) :=
  ⟨_, tk, _, h, parse_Q, rfl, fun _ _ _ _ _ _ _ _ h0 h1 hq => packed_Q h0 h1 (hq _ _), fun _ _ _ _ s _ x h0 h1 hq => unpacked_Q (by rw [back_Q h0 h1]; exact hq _ _)⟩
theorem back_b {x : Int} (h0 : -128 ≤ x) (h1 : x ≤ 127) : (if ('b'.isLower && decide (Builtin.Struct.natOf false ((octs 1 x).extract (0 + 0 + 0 * 1) (0 + 0 + (0 + 1) * 1)) ≥ 2 ^ (8 * 1 - 1))) = true then (Builtin.Struct.natOf false ((octs 1 x).extract (0 + 0 + 0 * 1) (0 + 0 + (0 + 1) * 1)) : Int) - (2 : Int) ^ (8 * 1) else (Builtin.Struct.natOf false ((octs 1 x).extract (0 + 0 + 0 * 1) (0 + 0 + (0 + 1) * 1)) : Int)) = x := by
  rw [octs_nat]
  have hl : 'b'.isLower = true := by decide
  rw [hl]
  simp only [Bool.true_and, Bool.false_and, Bool.false_eq_true, if_false, decide_eq_true_eq, ge_iff_le, Nat.reduceMul, Nat.reducePow, Int.reducePow, Nat.reduceSub]
  split <;> omega
theorem packer_b {K : Frag} {p : Addr} {tk : PySem.Tok} (h : K.lookup p = some ⟨.type "_struct.Struct", none, .fields #[.bytes #[60, 98] tk], #[]⟩) : Packer K p 1 (-128) 127 (fun x t => .int x t) :=
  ⟨_, tk, _, h, parse_b, rfl, fun _ _ _ _ _ _ _ _ h0 h1 hq => packed_b h0 h1 (hq _ _), fun _ _ _ _ s _ x h0 h1 hq => unpacked_b (by rw [back_b h0 h1]; exact hq _ _)⟩
theorem back_h {x : Int} (h0 : -32768 ≤ x) (h1 : x ≤ 32767) : (if ('h'.isLower && decide (Builtin.Struct.natOf false ((octs 2 x).extract (0 + 0 + 0 * 2) (0 + 0 + (0 + 1) * 2)) ≥ 2 ^ (8 * 2 - 1))) = true then (Builtin.Struct.natOf false ((octs 2 x).extract (0 + 0 + 0 * 2) (0 + 0 + (0 + 1) * 2)) : Int) - (2 : Int) ^ (8 * 2) else (Builtin.Struct.natOf false ((octs 2 x).extract (0 + 0 + 0 * 2) (0 + 0 + (0 + 1) * 2)) : Int)) = x := by
  rw [octs_nat]
  have hl : 'h'.isLower = true := by decide
  rw [hl]
  simp only [Bool.true_and, Bool.false_and, Bool.false_eq_true, if_false, decide_eq_true_eq, ge_iff_le, Nat.reduceMul, Nat.reducePow, Int.reducePow, Nat.reduceSub]
  split <;> omega
theorem packer_h {K : Frag} {p : Addr} {tk : PySem.Tok} (h : K.lookup p = some ⟨.type "_struct.Struct", none, .fields #[.bytes #[60, 104] tk], #[]⟩) : Packer K p 2 (-32768) 32767 (fun x t => .int x t) :=
  ⟨_, tk, _, h, parse_h, rfl, fun _ _ _ _ _ _ _ _ h0 h1 hq => packed_h h0 h1 (hq _ _), fun _ _ _ _ s _ x h0 h1 hq => unpacked_h (by rw [back_h h0 h1]; exact hq _ _)⟩
theorem back_i {x : Int} (h0 : -2147483648 ≤ x) (h1 : x ≤ 2147483647) : (if ('i'.isLower && decide (Builtin.Struct.natOf false ((octs 4 x).extract (0 + 0 + 0 * 4) (0 + 0 + (0 + 1) * 4)) ≥ 2 ^ (8 * 4 - 1))) = true then (Builtin.Struct.natOf false ((octs 4 x).extract (0 + 0 + 0 * 4) (0 + 0 + (0 + 1) * 4)) : Int) - (2 : Int) ^ (8 * 4) else (Builtin.Struct.natOf false ((octs 4 x).extract (0 + 0 + 0 * 4) (0 + 0 + (0 + 1) * 4)) : Int)) = x := by
  rw [octs_nat]
  have hl : 'i'.isLower = true := by decide
  rw [hl]
  simp only [Bool.true_and, Bool.false_and, Bool.false_eq_true, if_false, decide_eq_true_eq, ge_iff_le, Nat.reduceMul, Nat.reducePow, Int.reducePow, Nat.reduceSub]
  split <;> omega
theorem packer_i {K : Frag} {p : Addr} {tk : PySem.Tok} (h : K.lookup p = some ⟨.type "_struct.Struct", none, .fields #[.bytes #[60, 105] tk], #[]⟩) : Packer K p 4 (-2147483648) 2147483647 (fun x t => .int x t) :=
  ⟨_, tk, _, h, parse_i, rfl, fun _ _ _ _ _ _ _ _ h0 h1 hq => packed_i h0 h1 (hq _ _), fun _ _ _ _ s _ x h0 h1 hq => unpacked_i (by rw [back_i h0 h1]; exact hq _ _)⟩
theorem back_q {x : Int} (h0 : -9223372036854775808 ≤ x) (h1 : x ≤ 9223372036854775807) : (if ('q'.isLower && decide (Builtin.Struct.natOf false ((octs 8 x).extract (0 + 0 + 0 * 8) (0 + 0 + (0 + 1) * 8)) ≥ 2 ^ (8 * 8 - 1))) = true then (Builtin.Struct.natOf false ((octs 8 x).extract (0 + 0 + 0 * 8) (0 + 0 + (0 + 1) * 8)) : Int) - (2 : Int) ^ (8 * 8) else (Builtin.Struct.natOf false ((octs 8 x).extract (0 + 0 + 0 * 8) (0 + 0 + (0 + 1) * 8)) : Int)) = x := by
  rw [octs_nat]
  have hl : 'q'.isLower = true := by decide
  rw [hl]
  simp only [Bool.true_and, Bool.false_and, Bool.false_eq_true, if_false, decide_eq_true_eq, ge_iff_le, Nat.reduceMul, Nat.reducePow, Int.reducePow, Nat.reduceSub]
  split <;> omega
theorem packer_q {K : Frag} {p : Addr} {tk : PySem.Tok} (h : K.lookup p = some ⟨.type "_struct.Struct", none, .fields #[.bytes #[60, 113] tk], #[]⟩) : Packer K p 8 (-9223372036854775808) 9223372036854775807 (fun x t => .int x t) :=
  ⟨_, tk, _, h, parse_q, rfl, fun _ _ _ _ _ _ _ _ h0 h1 hq => packed_q h0 h1 (hq _ _), fun _ _ _ _ s _ x h0 h1 hq => unpacked_q (by rw [back_q h0 h1]; exact hq _ _)⟩
theorem parse_t : Builtin.Struct.parse #[63] = pure ⟨false, true, [⟨'?', 1, 0, 1⟩], 1, 1⟩ := by kernel_rfl
theorem packed_t0 {prog : Program} {w : World} {A : Around} {E : Value → Shared → Prop} {s : Shared} {Q : Fin → Shared → Prop} {t : PySem.Tok} (h : Q (.done (.ret (.bytes (octs 1 0) s.toks))) { s with toks := s.toks + 1 }) :
    wpAny (model prog w) A (Builtin.Struct.packed "_struct.Struct.pack" "pack" ⟨false, true, [⟨'?', 1, 0, 1⟩], 1, 1⟩ [.int 0 t]) Q E s := by
  obtain ⟨hp, g, d, tk, os⟩ := s
  unfold Builtin.Struct.packed Builtin.Struct.packEach
  simp only [Std.Legacy.Range.forIn_eq_forIn_range', Std.Legacy.Range.size]
  repeat (first
    | with_reducible refine wpAny_bind ?_
    | with_reducible refine wpAny_pure ?_
    | with_reducible refine wpAny_attempt ?_
    | with_reducible refine wpAny_fresh' ?_
    | with_reducible refine wpAny_mkInt' ?_
    | with_reducible refine wpAny_alloc' ?_
    | with_reducible refine P.truthy_int ?_
    | with_reducible refine wpAny_of_eq PySem.W.KBd.like_eq ?_
    | ((with_reducible refine wpAny_ite_false ?hc ?_); (case hc => first | (simp [*]; done) | rfl))
    | ((with_reducible refine wpAny_ite_true ?hc ?_); (case hc => first | (simp [*]; done) | rfl))
    | wp_delta
    | with_reducible_and_instances refine wpAny_pure ?_
    | with_reducible_and_instances refine wpAny_bind ?_)
  refine Eq.mp ?_ h
  kernel_rfl
theorem unpacked_t0 {M : Model} {A : Around} {E : Value → Shared → Prop} {s : Shared} {Q : Value → Shared → Prop}
    (h : Q (.ref s.heap.objs.size) { s with heap := s.heap.push { cls := .type "tuple", data := .seq [Value.bool (decide (0 = 1))].toArray } }) :
    wpAny M A (Builtin.Struct.unpacked "_struct.Struct.unpack_from" ⟨false, true, [⟨'?', 1, 0, 1⟩], 1, 1⟩ (octs 1 0) 0) Q E s := by
  obtain ⟨hp, g, d, tk, os⟩ := s
  unfold Builtin.Struct.unpacked
  simp only [Std.Legacy.Range.forIn_eq_forIn_range', Std.Legacy.Range.size]
  repeat (first
    | with_reducible refine wpAny_bind ?_
    | with_reducible refine wpAny_pure ?_
    | with_reducible refine wpAny_attempt ?_
    | with_reducible refine wpAny_fresh' ?_
    | with_reducible refine wpAny_mkInt' ?_
    | with_reducible refine wpAny_alloc' ?_
    | with_reducible refine P.truthy_int ?_
    | with_reducible refine wpAny_of_eq PySem.W.KBd.like_eq ?_
    | ((with_reducible refine wpAny_ite_false ?hc ?_); (case hc => first | (simp [*]; done) | rfl))
    | ((with_reducible refine wpAny_ite_true ?hc ?_); (case hc => first | (simp [*]; done) | rfl))
    | wp_delta
    | with_reducible_and_instances refine wpAny_pure ?_
    | with_reducible_and_instances refine wpAny_bind ?_)
  refine Eq.mp ?_ h
  kernel_rfl
theorem packed_t1 {prog : Program} {w : World} {A : Around} {E : Value → Shared → Prop} {s : Shared} {Q : Fin → Shared → Prop} {t : PySem.Tok} (h : Q (.done (.ret (.bytes (octs 1 1) s.toks))) { s with toks := s.toks + 1 }) :
    wpAny (model prog w) A (Builtin.Struct.packed "_struct.Struct.pack" "pack" ⟨false, true, [⟨'?', 1, 0, 1⟩], 1, 1⟩ [.int 1 t]) Q E s := by
  obtain ⟨hp, g, d, tk, os⟩ := s
  unfold Builtin.Struct.packed Builtin.Struct.packEach
  simp only [Std.Legacy.Range.forIn_eq_forIn_range', Std.Legacy.Range.size]
  repeat (first
    | with_reducible refine wpAny_bind ?_
    | with_reducible refine wpAny_pure ?_
    | with_reducible refine wpAny_attempt ?_
    | with_reducible refine wpAny_fresh' ?_
    | with_reducible refine wpAny_mkInt' ?_
    | with_reducible refine wpAny_alloc' ?_
    | with_reducible refine P.truthy_int ?_
    | with_reducible refine wpAny_of_eq PySem.W.KBd.like_eq ?_
    | ((with_reducible refine wpAny_ite_false ?hc ?_); (case hc => first | (simp [*]; done) | rfl))
    | ((with_reducible refine wpAny_ite_true ?hc ?_); (case hc => first | (simp [*]; done) | rfl))
    | wp_delta
    | with_reducible_and_instances refine wpAny_pure ?_
    | with_reducible_and_instances refine wpAny_bind ?_)
  refine Eq.mp ?_ h
  kernel_rfl
theorem unpacked_t1 {M : Model} {A : Around} {E : Value → Shared → Prop} {s : Shared} {Q : Value → Shared → Prop}
    (h : Q (.ref s.heap.objs.size) { s with heap := s.heap.push { cls := .type "tuple", data := .seq [Value.bool (decide (1 = 1))].toArray } }) :
    wpAny M A (Builtin.Struct.unpacked "_struct.Struct.unpack_from" ⟨false, true, [⟨'?', 1, 0, 1⟩], 1, 1⟩ (octs 1 1) 0) Q E s := by
  obtain ⟨hp, g, d, tk, os⟩ := s
  unfold Builtin.Struct.unpacked
  simp only [Std.Legacy.Range.forIn_eq_forIn_range', Std.Legacy.Range.size]
  repeat (first
    | with_reducible refine wpAny_bind ?_
    | with_reducible refine wpAny_pure ?_
    | with_reducible refine wpAny_attempt ?_
    | with_reducible refine wpAny_fresh' ?_
    | with_reducible refine wpAny_mkInt' ?_
    | with_reducible refine wpAny_alloc' ?_
    | with_reducible refine P.truthy_int ?_
    | with_reducible refine wpAny_of_eq PySem.W.KBd.like_eq ?_
    | ((with_reducible refine wpAny_ite_false ?hc ?_); (case hc => first | (simp [*]; done) | rfl))
    | ((with_reducible refine wpAny_ite_true ?hc ?_); (case hc => first | (simp [*]; done) | rfl))
    | wp_delta
    | with_reducible_and_instances refine wpAny_pure ?_
    | with_reducible_and_instances refine wpAny_bind ?_)
  refine Eq.mp ?_ h
  kernel_rfl
theorem packer_t {K : Frag} {p : Addr} {tk : PySem.Tok} (h : K.lookup p = some ⟨.type "_struct.Struct", none, .fields #[.bytes #[63] tk], #[]⟩) : Packer K p 1 0 1 (fun x _ => .bool (decide (x = 1))) := by
  refine ⟨_, tk, _, h, parse_t, rfl, fun _ _ _ _ _ _ x _ h0 h1 hq => ?_, fun _ _ _ _ s _ x h0 h1 hq => ?_⟩
  · rcases (by omega : x = 0 ∨ x = 1) with rfl | rfl
    · exact packed_t0 (hq _ _)
    · exact packed_t1 (hq _ _)
  · rcases (by omega : x = 0 ∨ x = 1) with rfl | rfl
    · exact unpacked_t0 (hq 0 _)
    · exact unpacked_t1 (hq 0 _)
end Mine
end
section
open PySem PySem.W PyProof.Rows PySem.Calls PyProof
namespace Mine
section
variable {prog : Program} {w : World} {A : Around} {E : Value → Shared → Prop} {s : Shared} {K : Frag} {h₀ : Heap} {L p : Addr} {m : Str → Option Value} {news : List (Addr × Obj)} {sz : Nat} {lo hi x : Int} {res : Int → vTok → Value} {t u : vTok}
theorem method_at {v : Value} {T : String} {name : Str} {id : String} {pl : Sem Bool} {Q : Value × List Value → Shared → Prop} {a : Addr} {o : Obj} (hv : v = .ref a) (ho : s.heap.get? a = some o) (hc : o.cls = .type T) (hdn : o.dict = none) (pa : PlainAttrs T)
    (hl : typeLookup (.type T) name = pure (some (.builtin id))) (hty : typeOf (.builtin id) = pure (.type "method_descriptor")) (h : Q (.builtin id, [v]) s) : wpAny (model prog w) A (getMethod v name pl) Q E s := by
  subst hv
  have hT : s.TypeIs (.ref a) T := ⟨o, ho, hc⟩
  obtain ⟨g, hg, hcan⟩ := pa.ga
  unfold getMethod
  refine wpAny_bind (wpAny_specialOf hT hg ?_)
  show wpAny _ A (if (Manifest.canonical g != "object.__getattribute__") = true then _ else _) Q E s
  rw [hcan, if_neg Bool.false_ne_true]
  refine wpAny_bind (wpAny_specialOf hT pa.noGetattr ?_)
  refine wpAny_bind (wpAny_specialOf hT hl ?_)
  refine wpAny_bind (wpAny_of_eq hty ?_)
  refine wpAny_bind (wpAny_load ho ?_)
  rw [hdn]
  exact wpAny_bind (wpAny_rule (wpAny_pure h))
theorem meth_pack {pl : Sem Bool} {Q : Value × List Value → Shared → Prop} (F : Fr h₀ L s.heap m) (X₀ : K.In h₀) (P : Packer K p sz lo hi res) (h : Q (.builtin "_struct.Struct.pack", [.ref p]) s) :
    wpAny (model prog w) A (getMethod (.ref p) "pack" pl) Q E s := by
  obtain ⟨fmt, tk, f, hl, _⟩ := P.ex
  exact method_at rfl ((X₀.keeps F.keep) _ _ hl) rfl rfl plainAttrs_S slot_S_pack.lookup type_S_pack h
theorem meth_unpack {pl : Sem Bool} {Q : Value × List Value → Shared → Prop} (F : Fr h₀ L s.heap m) (X₀ : K.In h₀) (P : Packer K p sz lo hi res) (h : Q (.builtin "_struct.Struct.unpack_from", [.ref p]) s) :
    wpAny (model prog w) A (getMethod (.ref p) "unpack_from" pl) Q E s := by
  obtain ⟨fmt, tk, f, hl, _⟩ := P.ex
  exact method_at rfl ((X₀.keeps F.keep) _ _ hl) rfl rfl plainAttrs_S slot_S_unpack.lookup type_S_unpack h
theorem meth_attr {name : Str} {v : Value} {C : Addr} {pl : Sem Bool} {Q : Value × List Value → Shared → Prop} (F : Fr h₀ L s.heap m) (X₀ : K.In h₀) (G : specialIn K (.ref C) "__getattribute__" = some (some (.builtin "type.__getattribute__"))) (D : HasAttr K C name v) (h : Q (v, []) { s with toks := s.toks + 1 }) :
    wpAny (model prog w) A (getMethod (.ref C) name pl) Q E s := method_of_cls F X₀ G (my_attr F X₀ D h)
theorem ne_ints_same {a b : Addr} {vs us : List Value} {ns ms : List Int} {Q : Value → Shared → Prop} (hl : s.heap.IsList a vs.toArray) (hi : IntsAre vs ns) (hl' : s.heap.IsList b us.toArray) (hi' : IntsAre us ms) (e : ns = ms) (hu : A.units + 64 < cLine)
    (h : Q (.bool false) s) : wpAny (model prog w) A (compareOp .NotEq (.ref a) (.ref b)) Q E s := by
  subst e
  exact ne_intsK hl hi hl' hi' hu (by simpa using h)
theorem call_pack {Q : Value → Shared → Prop} (F : Fr h₀ L s.heap m) (X₀ : K.In h₀) (P : Packer K p sz lo hi res) (h0 : lo ≤ x) (h1 : x ≤ hi) (h : ∀ t' tk', Q (.bytes (octs sz x) t') { s with toks := tk' }) :
    wpAny (model prog w) A (call (.builtin "_struct.Struct.pack") [.ref p, .int x t]) Q E s := by
  obtain ⟨fmt, tk, f, hl, hp, _, hpk, _⟩ := P.ex
  have ho := (X₀.keeps F.keep) _ _ hl
  refine wpAny_call (codeAny_call_builtin_at (Code.quiet_builtin _ (by decide +kernel)) entry_S_pack (slot_S_pack.check _ _ _ _ _ _ _ _ ⟨_, ho, rfl⟩ (args_S_pack _ _) ?_))
  exact pack_run ho hp (hpk _ _ _ _ _ _ _ _ h0 h1 fun t' tk' => h t' tk')
theorem call_unpack {Q : Value → Shared → Prop} (F : Fr h₀ L s.heap m) (N : News h₀ L s.heap news) (X₀ : K.In h₀) (P : Packer K p sz lo hi res) (h0 : lo ≤ x) (h1 : x ≤ hi)
    (h : ∀ q t' h' tk', Fr h₀ L h' m → News h₀ L h' ((q, tupObj [res x t'] 0) :: news) → (∀ r ∈ news, r.1 < q) → Q (.ref q) { s with heap := h', toks := tk' }) :
    wpAny (model prog w) A (call (.builtin "_struct.Struct.unpack_from") [.ref p, .bytes (octs sz x) t, .int 0 u]) Q E s := by
  obtain ⟨fmt, tk, f, hl, hp, hs, _, hup⟩ := P.ex
  have ho := (X₀.keeps F.keep) _ _ hl
  refine wpAny_call (codeAny_call_builtin_at (Code.quiet_builtin _ (by decide +kernel)) entry_S_unpack (slot_S_unpack.check _ _ _ _ _ _ _ _ ⟨_, ho, rfl⟩ (args_S_unpack _ _ _) ?_))
  exact unpack_run ho hp (by rw [octs_size, hs]) (hup _ _ _ _ _ _ _ h0 h1 fun t' tk' => h _ t' _ tk' (F.push _) (News.push F N _) fun r hr => Heap.lt_size (N r hr).1)
end
theorem ints_of_get : ∀ {vs : List Value} {ns : List Int}, vs.length = ns.length → (∀ (j : Nat) (v : Value), vs[j]? = some v → ∃ (n : Int) (u : vTok), ns[j]? = some n ∧ v = .int n u) → IntsAre vs ns
  | [], [], _, _ => .nil
  | [], _ :: _, h, _ => by cases h
  | _ :: _, [], h, _ => by cases h
  | v :: vs, n :: ns, h, g => by
    obtain ⟨n', u, e, rfl⟩ := g 0 v rfl
    cases (show some n = some n' from e)
    exact .cons n u (ints_of_get (Nat.succ.inj h) fun j v hj => g (j + 1) v hj)
section
variable {prog : Program} {w : World} {A : Around} {E : Value → Shared → Prop} {s : Shared} {b : Array UInt8} {t : vTok}
theorem bytes_hint {Q : Bool → Shared → Prop} (h : Q false s) : wpAny (model prog w) A (Builtin.List.listLengthHint (.bytes b t)) Q E s := by
  have hT : s.TypeIs (.bytes b t) "bytes" := typeIs_bytes s b t
  unfold Builtin.List.listLengthHint
  refine wpAny_bind (wpAny_specialOf hT FB.slot_bytes_len.lookup ?_)
  generalize hid : ("bytes.__len__" : String) = id0
  wp_delta
  rw [show splitId id0 = some ("bytes", "__len__") from by subst hid; decide +kernel]
  subst hid
  refine wpAny_bind (wpAny_isInstance (T := "bytes") (b := true) hT (by rw [isSubtype_type]; kernel_rfl) ?_)
  refine wpAny_ite_split (fun hab => absurd hab (by decide)) (fun _ => ?_)
  refine wpAny_ite_split (fun _ => ?_) (fun hab => absurd (by decide +kernel) hab)
  refine wpAny_bind (wpAny_typeOf hT ?_)
  exact wpAny_pure h
theorem bytes_extend {R : Result → Shared → Prop} (hh : A.handled = none) (S : Addr) (c₀ : Nat) (hS : s.heap.get? S = some { cls := .type "list", data := .seq #[] c₀ }) (hn : b.size ≤ sizeLine)
    (hR : ∀ h' tk acc' c', (∀ a o, a ≠ S → s.heap.get? a = some o → h'.get? a = some o) → h'.get? S = some { cls := .type "list", dict := none, data := .seq acc' c', slots := #[] } → ItemsOf (fun i v => ∃ c u, b[i]? = some c ∧ v = .int (c.toNat : Int) u) acc' b.size → R (.ok (.ret .none)) { s with heap := h', toks := tk }) :
    wpAny (model prog w) A.in1 (Builtin.List.listExtendWith (.ref S) (.bytes b t) .none)
      (fun fin s' => match fin with | .done f => R (.ok f) s' | .again c' => c'.quiet = true ∧ codeAny (model prog w) A c' R s') (fun e s' => R (.error e) s') s := by
  have hSI : S ≠ s.heap.objs.size := Nat.ne_of_lt (Heap.lt_size hS)
  have hSf : S ∉ [s.heap.objs.size] := fun hm => hSI (List.mem_singleton.mp hm)
  have W := (KBw.walks (prog := prog) (w := w) (A := A.in1) hh s.heap.objs.size b t).toS
  have key : ∀ (h : Heap) (c₁ tk : Nat), KBw.IsBytesIter h s.heap.objs.size b t 0 → (∀ a o, a ≠ S → s.heap.get? a = some o → h.get? a = some o) →
      h.get? S = some { cls := .type "list", data := .seq #[] c₁ } → codeAny (model prog w) A (.builtin "list.extend.loop" ⟨[.ref S, .ref s.heap.objs.size, .none], []⟩) R { s with heap := h, toks := tk } := by
    intro h c₁ tk hit hk hS₁
    refine codeAny_extend_loopS W hn S hSf .none b.size 0 _ #[] c₁ rfl (Nat.zero_le _) hit hS₁ (ItemsOf.nil _) fun s' acc' c' hm hS' hacc => ?_
    rw [Moved.eq_with hm]
    refine hR s'.heap s'.toks acc' c' (fun a o ha e => hm.heap a o (fun hmem => ?_) (hk a o ha e)) hS' hacc
    rcases List.mem_cons.mp hmem with e' | hmem
    · exact ha e'
    · exact absurd (Heap.lt_size e) (by rw [List.mem_singleton.mp hmem]; exact Nat.lt_irrefl _)
  unfold Builtin.List.listExtendWith
  refine wpAny_bind (wpAny_typeOf (T := "bytes") (typeIs_bytes s b t) ?_)
  have h1 : Builtin.List.listSameRef (.ref S) (.bytes b t) = false := rfl
  have h2 : (Value.type "bytes" == Value.type "list") = false := by decide
  have h3 : (Value.type "bytes" == Value.type "tuple") = false := by decide
  simp only [h1, h2, h3, Bool.or_false, Bool.false_eq_true, if_false]
  refine wpAny_bind (KBw.pyIter_bytes ?_)
  refine wpAny_bind (wpAny_holding (bytes_hint ?_))
  have hit : KBw.IsBytesIter (s.heap.push { cls := .type "bytes_iterator", data := .fields #[.bytes b t, .int 0 0] }) s.heap.objs.size b t 0 := ⟨_, Heap.get?_push_size _ rfl, rfl, rfl⟩
  have hS₁ := Heap.get?_push_of_some { cls := .type "bytes_iterator", data := .fields #[.bytes b t, .int 0 0] } hS
  refine wpAny_ite_split (fun _ => ?_) (fun _ => wpAny_pure ⟨plainId_quiet PySem.F.plain_extend_loop _, key _ c₀ _ hit (fun a o _ e => Heap.get?_push_of_some _ e) hS₁⟩)
  refine wpAny_bind (wpAny_rule ?_)
  refine wpAny_bind ?_
  show wpAny _ _ (updateSeq S (·.push .none) >>= fun _ => updateSeq S (·.pop)) _ _ _
  refine wpAny_bind (wpAny_updateSeq hS₁ rfl ?_)
  have hS₂ := Heap.get?_update_self (Obj.mapSeq (·.push Value.none)) hS₁ rfl
  refine wpAny_updateSeq (hz := by seq_fits) hS₂ rfl ?_
  have hS₃ := Heap.get?_update_self (Obj.mapSeq (·.pop)) hS₂ rfl
  refine wpAny_pure ⟨plainId_quiet PySem.F.plain_extend_loop _, key _ _ _ ?_ (fun a o ha e => ?_) hS₃⟩
  · obtain ⟨o, ho, r⟩ := hit
    exact ⟨o, (Heap.get?_update_other _ _ hSI).trans ((Heap.get?_update_other _ _ hSI).trans ho), r⟩
  · exact (Heap.get?_update_other _ _ (Ne.symm ha)).trans ((Heap.get?_update_other _ _ (Ne.symm ha)).trans (Heap.get?_push_of_some _ e))
theorem list_of_bytes {Q : Value → Shared → Prop} {h₀ : Heap} {L : Addr} {m : Str → Option Value} {news : List (Addr × Obj)} (hh : A.handled = none) (F : Fr h₀ L s.heap m) (N : News h₀ L s.heap news) (hn : b.size ≤ sizeLine)
    (h : ∀ (D : Addr) c h' tk (vs : List Value), Fr h₀ L h' m → News h₀ L h' ((D, listOf vs.toArray c) :: news) → (∀ q ∈ news, q.1 < D) → IntsAre vs (KBw.bInts b) → Q (.ref D) { s with heap := h', toks := tk }) :
    wpAny (model prog w) A (call (.type "list") [.bytes b t]) Q E s := by
  refine callType_codes (Q₁ := fun obj s₁ => obj = .ref s.heap.objs.size ∧ s₁ = { s with heap := s.heap.push { cls := .type "list", data := .seq #[] } }) PySem.F.called_list (PySem.F.typeCall_list_1 _) PySem.F.entry_list_init
    (code_list_new _ ⟨rfl, rfl⟩) fun obj s₁ h₁ => ?_
  obtain ⟨rfl, rfl⟩ := h₁
  have hS : (s.heap.push { cls := .type "list", data := .seq #[] }).get? s.heap.objs.size = some { cls := .type "list", data := .seq #[] } := Heap.get?_push_size _ rfl
  refine ⟨⟨_, hS, rfl⟩, PySem.F.args_list_init_2 _ _, ?_⟩
  show wpAny _ _ (do let old ← Builtin.List.listItems (.ref s.heap.objs.size); Builtin.List.listUpdate (.ref s.heap.objs.size) (fun _ => #[]); letGo old.toList.reverse; Builtin.List.listExtendWith (.ref s.heap.objs.size) (.bytes b t) .none) _ _ _
  refine wpAny_bind ?_
  unfold Builtin.List.listItems
  refine wpAny_bind (wpAny_seqItems hS rfl (wpAny_pure ?_))
  show wpAny _ _ (updateSeq s.heap.objs.size (fun _ => #[]) >>= fun _ => letGo (#[] : Array Value).toList.reverse >>= fun _ => Builtin.List.listExtendWith (.ref s.heap.objs.size) (.bytes b t) .none) _ _ _
  refine wpAny_bind (wpAny_updateSeq hS rfl ?_)
  have hS₂ := Heap.get?_update_self (Obj.mapSeq (fun _ => (#[] : Array Value))) hS rfl
  refine wpAny_bind (wpAny_letGo ?_)
  refine bytes_extend (A := A.in1) hh s.heap.objs.size _ hS₂ hn fun h' tk acc' c' hk hD hacc => ?_
  have hk' : ∀ a o, s.heap.get? a = some o → h'.get? a = some o := fun a o e => hk a o (Nat.ne_of_lt (Heap.lt_size e)) ((Heap.get?_update_other _ _ (Ne.symm (Nat.ne_of_lt (Heap.lt_size e)))).trans (Heap.get?_push_of_some _ e))
  refine ⟨rfl, h _ c' h' tk acc'.toList (F.keeps hk') (news_pushed F N hk' (by first | (rw [Array.toArray_toList]; exact hD) | simpa using hD) rfl) (fun q hq => Heap.lt_size (N q hq).1) (ints_of_get ?_ ?_)⟩
  · rw [Array.length_toList, hacc.1, KBw.ints_length]
  · intro j v hj
    obtain ⟨c, u, e, rfl⟩ := hacc.2 j v (by rw [← Array.getElem?_toList]; exact hj)
    exact ⟨_, u, KBw.ints_get e, rfl⟩
end
end Mine
end
section
open PySem PySem.W PyProof.Rows PySem.Calls
namespace Mine
local macro_rules | `(tactic| k_room) => `(tactic| ktr_room)
local macro_rules | `(tactic| k_units) => `(tactic| ktr_units)
local macro_rules | `(tactic| walk_at "getAttr ref") => `(tactic| (k_here; k_dflt (refine' my_attr ?k1 ?k2 ?k3 ?_; (case k1 => k_asm); (case k2 => k_asm); (case k3 => assumption); k_whole)))
local macro_rules | `(tactic| walk_at "call ref") => `(tactic| (k_here; k_dflt (refine' ct_use (rows_ct _ _ _ _ _ _ _ _ _ _ _ ?ha ?hb) ?k1 ?k2 ?k3 ?k4 ?k5 ?k6 ?k7 ?k8 ?_; (case hb => assumption); (case ha => assumption); (case k1 => k_asm); (case k2 => k_asm); (case k3 => k_asm); (case k4 => k_asm); (case k5 => k_asm); (case k6 => first | exact rfl | assumption); (case k7 => ktr_room); (case k8 => ktr_units)); intro v9 ex9 h9 tk9 hR9 hO9 F9 N9; (obtain ⟨l9, t9, vs9, n9, n9', a9, b9, c9, d9, e9, hx9, e9'⟩ := hR9); subst e9; subst e9'; (simp only [List.cons_append, List.nil_append] at N9); (simp only [List.forall_mem_cons, List.not_mem_nil, false_implies, implies_true, and_true, LCg.Off1] at hO9); (try dsimp only); (try k_fold)))
local macro_rules | `(tactic| walk_at "call ref") => `(tactic| (k_here; k_dflt (refine' ct_use (flags_ct _ _ _ _ _ _ _ _ _ ?ha ?hb ?hc) ?k1 ?k2 ?k3 ?k4 ?k5 ?k6 ?k7 ?k8 ?_; (case hc => assumption); (case ha => assumption); (case hb => assumption); (case k1 => k_asm); (case k2 => k_asm); (case k3 => k_asm); (case k4 => k_asm); (case k5 => k_asm); (case k6 => first | exact rfl | assumption); (case k7 => ktr_room); (case k8 => ktr_units)); intro v9 ex9 h9 tk9 hR9 hO9 F9 N9; (obtain ⟨e9, e9'⟩ := hR9); subst e9; subst e9'; (simp only [List.nil_append] at N9); clear hO9; (try dsimp only); (try k_fold)))
local macro_rules | `(tactic| walk_at "call ref") => `(tactic| (k_here; k_dflt (refine' ct_use (octets_ct _ _ _ _ _ _ _ _ _ _ ?ha ?hb) ?k1 ?k2 ?k3 ?k4 ?k5 ?k6 ?k7 ?k8 ?_; (case ha => assumption); (case hb => assumption); (case k1 => k_asm); (case k2 => k_asm); (case k3 => k_asm); (case k4 => k_asm); (case k5 => k_asm); (case k6 => first | exact rfl | assumption); (case k7 => ktr_room); (case k8 => ktr_units)); intro v9 ex9 h9 tk9 hR9 hO9 F9 N9; (obtain ⟨D9, ys9, e9, hI9, e9'⟩ := hR9); subst e9; subst e9'; (simp only [List.cons_append, List.nil_append] at N9); (simp only [List.forall_mem_cons, List.not_mem_nil, false_implies, implies_true, and_true, LCg.Off1] at hO9); (try dsimp only); (try k_fold)))
local macro_rules | `(tactic| walk_at "subscriptTail") => `(tactic| (k_here; (with_reducible show wpAny _ _ (subscriptTail _ _ (Value.ref _) (Value.int _ _)) _ _ _); k_dflt (refine' item_sym ?N ?m ?a ?b ?c ?_; (case N => k_asm); (case m => k_mem); (case a => assumption); (case b => omega); (case c => assumption); k_whole)))
local macro_rules | `(tactic| walk_at "getMethod ref") => `(tactic| (k_here; (with_reducible show wpAny _ _ (getMethod (Value.ref _) (PySem.Str.ofString "py_type") _) _ _ _); k_dflt (refine' meth_attr ?F ?X ?G ?D ?_; (case F => k_asm); (case X => k_asm); (case G => assumption); (case D => assumption))))
local macro_rules | `(tactic| walk_at "getMethod ref") => `(tactic| (k_here; (with_reducible show wpAny _ _ (getMethod (Value.ref _) (PySem.Str.ofString "pack") _) _ _ _); k_dflt (refine' meth_pack ?F ?X ?P ?_; (case P => assumption); (case F => k_asm); (case X => k_asm))))
local macro_rules | `(tactic| walk_at "getMethod ref") => `(tactic| (k_here; (with_reducible show wpAny _ _ (getMethod (Value.ref _) (PySem.Str.ofString "unpack_from") _) _ _ _); k_dflt (refine' meth_unpack ?F ?X ?P ?_; (case P => assumption); (case F => k_asm); (case X => k_asm))))
local macro_rules | `(tactic| walk_at "call builtin:_struct.Struct.pack") => `(tactic| (k_here; k_dflt (refine' call_pack ?F ?X ?P ?h0 ?h1 ?_; (case P => assumption); (case F => k_asm); (case X => k_asm); (case h0 => assumption); (case h1 => assumption)); intro t9 tk9; (try dsimp only); (try k_fold)))
local macro_rules | `(tactic| walk_at "compareOp NotEq ref ref") => `(tactic| (k_here; k_dflt (refine' ne_ints_same ?k1 ?k2 ?k3 ?k4 ?ke ?k5 ?_; (case k1 => exact News.isList (by k_asm) (by k_mem)); (case k3 => exact News.isList (by k_asm) (by k_mem)); (case k2 => assumption); (case k4 => assumption); (case ke => assumption); (case k5 => ktr_units)); (try dsimp only)))
local macro_rules | `(tactic| walk_at "call type:list") => `(tactic| (k_here; (with_reducible show wpAny _ _ (call (Value.type "list") [Value.bytes _ _]) _ _ _); k_dflt (refine' list_of_bytes ?hh ?F ?N ?z ?_; (case hh => exact rfl); (case F => k_asm); (case N => k_asm); (case z => (rw [octs_size, sizeLine_eq]; omega))); intro D9 c9 h9 tk9 vs9 F9 N9 l9 hI9; (try k_lt l9); (try dsimp only); (try k_fold)))
local macro_rules | `(tactic| walk_at "call builtin:_struct.Struct.unpack_from") => `(tactic| (k_here; k_dflt (refine' call_unpack ?F ?N ?X ?P ?h0 ?h1 ?_; (case P => assumption); (case F => k_asm); (case N => k_asm); (case X => k_asm); (case h0 => assumption); (case h1 => assumption)); intro q9 t9 h9 tk9 F9 N9 l9; (try k_lt l9); (try dsimp only); (try k_fold)))

set_option maxHeartbeats 8000000 in
theorem within_int (w : World) (p : Program) (loose : List Str) (mean : ExcName → Option Value) (mg mb : Str → Option Value) (k : Int) (x wd lo hi : Int) (nm : Str) (C pk : Addr) (t t' : vTok) (h0 : 0 ≤ k) (h12 : k < 12) (hk0 : k ≠ 0) (hrow : rowTab[(k : Int).toNat]? = some (wd, lo, hi, nm)) (hfl : ([Value.ref 61, Value.ref 75, Value.ref 89, Value.ref 103, Value.ref 117, Value.ref 131, Value.ref 145, Value.ref 159, Value.ref 173, Value.ref 187, Value.ref 199, Value.ref 211] : List Value)[(k : Int).toNat]? = some (Value.ref C))
    (hw1 : 1 ≤ wd) (hw8 : wd ≤ 8) (hga : specialIn (hd.heap_39 w.params) (.ref C) "__getattribute__" = some (some (.builtin "type.__getattribute__"))) (hpk : HasAttr (hd.heap_39 w.params) C "packer_type" (.ref pk)) (P : Packer (hd.heap_39 w.params) pk wd.toNat lo hi (fun x t => .int x t)) (hpy : HasAttr (hd.heap_39 w.params) C "py_type" (.type "int"))
    (hx0 : lo ≤ x) (hx1 : x ≤ hi) (hoct : KBw.bInts (octs wd.toNat x) = octInts x wd) :
    Ct w p loose mean mg mb 267 3 [.int k t, .int x t'] (fun v ex => v = .bool true ∧ ex = []) := by
  unfold Ct prg
  k_fill
  intro dp un gd cn cs a ccd cl outer A₀ base h₀ L m news s Q E B F X N T hk hd hu hret
  refine wpAny_call ?_
  k_dflt cell_enter
  k_steps
  all_goals (first | exact hret _ [] _ _ ⟨rfl, rfl⟩ (fun _ h => nomatch h) (by k_asm) (cb_drop (by assumption) (by intro q hq; repeat (first | exact hq | refine List.Mem.tail _ ?_))) | exact hret _ [] _ _ ⟨by rw [beq_self_eq_true], rfl⟩ (fun _ h => nomatch h) (by k_asm) (cb_drop (by assumption) (by intro q hq; repeat (first | exact hq | refine List.Mem.tail _ ?_))) | exact absurd (by assumption) hk0)

set_option maxHeartbeats 8000000 in
theorem within_bool (w : World) (p : Program) (loose : List Str) (mean : ExcName → Option Value) (mg mb : Str → Option Value) (x wd lo hi : Int) (nm : Str) (C pk : Addr) (t t' : vTok) (hrow : rowTab[(0 : Int).toNat]? = some (wd, lo, hi, nm)) (hfl : ([Value.ref 61, Value.ref 75, Value.ref 89, Value.ref 103, Value.ref 117, Value.ref 131, Value.ref 145, Value.ref 159, Value.ref 173, Value.ref 187, Value.ref 199, Value.ref 211] : List Value)[(0 : Int).toNat]? = some (Value.ref C))
    (hw1 : 1 ≤ wd) (hw8 : wd ≤ 8) (hga : specialIn (hd.heap_39 w.params) (.ref C) "__getattribute__" = some (some (.builtin "type.__getattribute__"))) (hpk : HasAttr (hd.heap_39 w.params) C "packer_type" (.ref pk)) (P : Packer (hd.heap_39 w.params) pk wd.toNat lo hi (fun x _ => .bool (decide (x = 1)))) (hpy : HasAttr (hd.heap_39 w.params) C "py_type" (.type "bool"))
    (hx0 : lo ≤ x) (hx1 : x ≤ hi) (hxb : x = 0 ∨ x = 1) (hoct : KBw.bInts (octs wd.toNat x) = octInts x wd) :
    Ct w p loose mean mg mb 267 3 [.int 0 t, .int x t'] (fun v ex => v = .bool true ∧ ex = []) := by
  unfold Ct prg
  k_fill
  intro dp un gd cn cs a ccd cl outer A₀ base h₀ L m news s Q E B F X N T hk hd hu hret
  have h0 : (0 : Int) ≤ 0 := Int.le_refl 0
  have h12 : (0 : Int) < 12 := by decide
  refine wpAny_call ?_
  k_dflt cell_enter
  k_steps
  all_goals (first | exact hret _ [] _ _ ⟨rfl, rfl⟩ (fun _ h => nomatch h) (by k_asm) (cb_drop (by assumption) (by intro q hq; repeat (first | exact hq | refine List.Mem.tail _ ?_))) | exact hret _ [] _ _ ⟨by rcases hxb with rfl | rfl <;> rfl, rfl⟩ (fun _ h => nomatch h) (by k_asm) (cb_drop (by assumption) (by intro q hq; repeat (first | exact hq | refine List.Mem.tail _ ?_))))
end Mine
end
section
open PySem PySem.W PyProof.Rows PySem.Calls
namespace Mine
local macro_rules | `(tactic| k_room) => `(tactic| ktr_room)
local macro_rules | `(tactic| k_units) => `(tactic| ktr_units)
local macro_rules | `(tactic| walk_at "getAttr ref") => `(tactic| (k_here; k_dflt (refine' my_attr ?k1 ?k2 ?k3 ?_; (case k1 => k_asm); (case k2 => k_asm); (case k3 => assumption); k_whole)))
local macro_rules | `(tactic| walk_at "call ref") => `(tactic| (k_here; k_dflt (refine' ct_use (rows_ct _ _ _ _ _ _ _ _ _ _ _ ?ha ?hb) ?k1 ?k2 ?k3 ?k4 ?k5 ?k6 ?k7 ?k8 ?_; (case hb => assumption); (case ha => assumption); (case k1 => k_asm); (case k2 => k_asm); (case k3 => k_asm); (case k4 => k_asm); (case k5 => k_asm); (case k6 => first | exact rfl | assumption); (case k7 => ktr_room); (case k8 => ktr_units)); intro v9 ex9 h9 tk9 hR9 hO9 F9 N9; (obtain ⟨l9, t9, vs9, n9, n9', a9, b9, c9, d9, e9, hx9, e9'⟩ := hR9); subst e9; subst e9'; (simp only [List.cons_append, List.nil_append] at N9); (simp only [List.forall_mem_cons, List.not_mem_nil, false_implies, implies_true, and_true, LCg.Off1] at hO9); (try dsimp only); (try k_fold)))
local macro_rules | `(tactic| walk_at "call ref") => `(tactic| (k_here; k_dflt (refine' ct_use (flags_ct _ _ _ _ _ _ _ _ _ ?ha ?hb ?hc) ?k1 ?k2 ?k3 ?k4 ?k5 ?k6 ?k7 ?k8 ?_; (case hc => assumption); (case ha => assumption); (case hb => assumption); (case k1 => k_asm); (case k2 => k_asm); (case k3 => k_asm); (case k4 => k_asm); (case k5 => k_asm); (case k6 => first | exact rfl | assumption); (case k7 => ktr_room); (case k8 => ktr_units)); intro v9 ex9 h9 tk9 hR9 hO9 F9 N9; (obtain ⟨e9, e9'⟩ := hR9); subst e9; subst e9'; (simp only [List.nil_append] at N9); clear hO9; (try dsimp only); (try k_fold)))
local macro_rules | `(tactic| walk_at "call ref") => `(tactic| (k_here; k_dflt (refine' ct_use (octets_ct _ _ _ _ _ _ _ _ _ _ ?ha ?hb) ?k1 ?k2 ?k3 ?k4 ?k5 ?k6 ?k7 ?k8 ?_; (case ha => assumption); (case hb => assumption); (case k1 => k_asm); (case k2 => k_asm); (case k3 => k_asm); (case k4 => k_asm); (case k5 => k_asm); (case k6 => first | exact rfl | assumption); (case k7 => ktr_room); (case k8 => ktr_units)); intro v9 ex9 h9 tk9 hR9 hO9 F9 N9; (obtain ⟨D9, ys9, e9, hI9, e9'⟩ := hR9); subst e9; subst e9'; (simp only [List.cons_append, List.nil_append] at N9); (simp only [List.forall_mem_cons, List.not_mem_nil, false_implies, implies_true, and_true, LCg.Off1] at hO9); (try dsimp only); (try k_fold)))
local macro_rules | `(tactic| walk_at "subscriptTail") => `(tactic| (k_here; (with_reducible show wpAny _ _ (subscriptTail _ _ (Value.ref _) (Value.int _ _)) _ _ _); k_dflt (refine' item_sym ?N ?m ?a ?b ?c ?_; (case N => k_asm); (case m => k_mem); (case a => assumption); (case b => omega); (case c => assumption); k_whole)))
local macro_rules | `(tactic| walk_at "getMethod ref") => `(tactic| (k_here; (with_reducible show wpAny _ _ (getMethod (Value.ref _) (PySem.Str.ofString "py_type") _) _ _ _); k_dflt (refine' meth_attr ?F ?X ?G ?D ?_; (case F => k_asm); (case X => k_asm); (case G => assumption); (case D => assumption))))
local macro_rules | `(tactic| walk_at "getMethod ref") => `(tactic| (k_here; (with_reducible show wpAny _ _ (getMethod (Value.ref _) (PySem.Str.ofString "pack") _) _ _ _); k_dflt (refine' meth_pack ?F ?X ?P ?_; (case P => assumption); (case F => k_asm); (case X => k_asm))))
local macro_rules | `(tactic| walk_at "getMethod ref") => `(tactic| (k_here; (with_reducible show wpAny _ _ (getMethod (Value.ref _) (PySem.Str.ofString "unpack_from") _) _ _ _); k_dflt (refine' meth_unpack ?F ?X ?P ?_; (case P => assumption); (case F => k_asm); (case X => k_asm))))
local macro_rules | `(tactic| walk_at "call builtin:_struct.Struct.pack") => `(tactic| (k_here; k_dflt (refine' call_pack ?F ?X ?P ?h0 ?h1 ?_; (case P => assumption); (case F => k_asm); (case X => k_asm); (case h0 => assumption); (case h1 => assumption)); intro t9 tk9; (try dsimp only); (try k_fold)))
local macro_rules | `(tactic| walk_at "compareOp NotEq ref ref") => `(tactic| (k_here; k_dflt (refine' ne_ints_same ?k1 ?k2 ?k3 ?k4 ?ke ?k5 ?_; (case k1 => exact News.isList (by k_asm) (by k_mem)); (case k3 => exact News.isList (by k_asm) (by k_mem)); (case k2 => assumption); (case k4 => assumption); (case ke => assumption); (case k5 => ktr_units)); (try dsimp only)))
local macro_rules | `(tactic| walk_at "call type:list") => `(tactic| (k_here; (with_reducible show wpAny _ _ (call (Value.type "list") [Value.bytes _ _]) _ _ _); k_dflt (refine' list_of_bytes ?hh ?F ?N ?z ?_; (case hh => exact rfl); (case F => k_asm); (case N => k_asm); (case z => (rw [octs_size, sizeLine_eq]; omega))); intro D9 c9 h9 tk9 vs9 F9 N9 l9 hI9; (try k_lt l9); (try dsimp only); (try k_fold)))
local macro_rules | `(tactic| walk_at "call builtin:_struct.Struct.unpack_from") => `(tactic| (k_here; k_dflt (refine' call_unpack ?F ?N ?X ?P ?h0 ?h1 ?_; (case P => assumption); (case F => k_asm); (case N => k_asm); (case X => k_asm); (case h0 => assumption); (case h1 => assumption)); intro q9 t9 h9 tk9 F9 N9 l9; (try k_lt l9); (try dsimp only); (try k_fold)))

theorem not_nought {k : Int} (h : k ≠ 0) : (false == (k == 0)) = true := by simp [h]
theorem bne_self_no {x : Str} (h : (x != x) = true) : False := by simp at h

set_option maxHeartbeats 8000000 in
theorem told_int (w : World) (p : Program) (loose : List Str) (mean : ExcName → Option Value) (mg mb : Str → Option Value) (k : Int) (wd lo hi : Int) (nm : Str) (C : Addr) (t tb tn t1 t2 : vTok) (h0 : 0 ≤ k) (h12 : k < 12) (hk0 : k ≠ 0) (hrow : rowTab[(k : Int).toNat]? = some (wd, lo, hi, nm)) (hfl : ([Value.ref 61, Value.ref 75, Value.ref 89, Value.ref 103, Value.ref 117, Value.ref 131, Value.ref 145, Value.ref 159, Value.ref 173, Value.ref 187, Value.ref 199, Value.ref 211] : List Value)[(k : Int).toNat]? = some (Value.ref C))
    (hbw : HasAttr (hd.heap_39 w.params) C "bytewidth" (.int wd tb)) (hmin : HasAttr (hd.heap_39 w.params) C "min_val" (.int lo t1)) (hmax : HasAttr (hd.heap_39 w.params) C "max_val" (.int hi t2)) (hnm : HasAttr (hd.heap_39 w.params) C "name" (.str nm tn)) :
    Ct w p loose mean mg mb 260 3 [.int k t] (fun v ex => v = .bool true ∧ ex = []) := by
  unfold Ct prg
  k_fill
  intro dp un gd cn cs a ccd cl outer A₀ base h₀ L m news s Q E B F X N T hk hd hu hret
  refine wpAny_call ?_
  k_dflt cell_enter
  k_steps
  all_goals (first | exact hret _ [] _ _ ⟨rfl, rfl⟩ (fun _ h => nomatch h) (by k_asm) (cb_drop (by assumption) (by intro q hq; repeat (first | exact hq | refine List.Mem.tail _ ?_))) | exact absurd (by assumption) hk0 | exact hret _ [] _ _ ⟨by rw [not_nought hk0], rfl⟩ (fun _ h => nomatch h) (by k_asm) (cb_drop (by assumption) (by intro q hq; repeat (first | exact hq | refine List.Mem.tail _ ?_))) | exact absurd rfl (by assumption) | exact (bne_self_no (by assumption)).elim)

set_option maxHeartbeats 8000000 in
theorem told_bool (w : World) (p : Program) (loose : List Str) (mean : ExcName → Option Value) (mg mb : Str → Option Value) (wd : Int) (nm : Str) (C : Addr) (t tb tn : vTok) (hrow : rowTab[(0 : Int).toNat]? = some (wd, 0, 1, nm)) (hfl : ([Value.ref 61, Value.ref 75, Value.ref 89, Value.ref 103, Value.ref 117, Value.ref 131, Value.ref 145, Value.ref 159, Value.ref 173, Value.ref 187, Value.ref 199, Value.ref 211] : List Value)[(0 : Int).toNat]? = some (Value.ref C))
    (hbw : HasAttr (hd.heap_39 w.params) C "bytewidth" (.int wd tb)) (hmin : HasAttr (hd.heap_39 w.params) C "min_val" (.bool false)) (hmax : HasAttr (hd.heap_39 w.params) C "max_val" (.bool true)) (hnm : HasAttr (hd.heap_39 w.params) C "name" (.str nm tn)) :
    Ct w p loose mean mg mb 260 3 [.int 0 t] (fun v ex => v = .bool true ∧ ex = []) := by
  unfold Ct prg
  k_fill
  intro dp un gd cn cs a ccd cl outer A₀ base h₀ L m news s Q E B F X N T hk hd hu hret
  have h0 : (0 : Int) ≤ 0 := Int.le_refl 0
  have h12 : (0 : Int) < 12 := by decide
  refine wpAny_call ?_
  k_dflt cell_enter
  k_steps
  all_goals (first | exact hret _ [] _ _ ⟨rfl, rfl⟩ (fun _ h => nomatch h) (by k_asm) (cb_drop (by assumption) (by intro q hq; repeat (first | exact hq | refine List.Mem.tail _ ?_))) | exact absurd (by assumption) hk0 | exact hret _ [] _ _ ⟨by rw [not_nought hk0], rfl⟩ (fun _ h => nomatch h) (by k_asm) (cb_drop (by assumption) (by intro q hq; repeat (first | exact hq | refine List.Mem.tail _ ?_))) | exact absurd rfl (by assumption) | exact (bne_self_no (by assumption)).elim)
end Mine
end
section
open PySem PySem.W PyProof.Rows PySem.Calls
namespace Mine
theorem p256_two (n : Nat) : (2 : Int) ^ (8 * n) = ((256 ^ n : Nat) : Int) := by
  rw [show (256 : Nat) = 2 ^ 8 from rfl, ← Nat.pow_mul, Int.natCast_pow]
  rfl
theorem octs_same (x wd : Int) (h1 : 1 ≤ wd) : KBw.bInts (octs wd.toNat x) = octInts x wd := by
  rw [octs_eq]
  unfold KBw.bInts Builtin.Memoryview.toLittleEndian octInts rangeKs
  rw [show (wd - 0).toNat = wd.toNat from by rw [Int.sub_zero]]
  generalize wd.toNat = n
  rw [p256_two, p256_cast]
  have hpos : (0 : Int) < ((256 ^ n : Nat) : Int) := by
    have : 0 < 256 ^ n := Nat.pow_pos (by decide)
    omega
  have hm : x.fmod ((256 ^ n : Nat) : Int) = ((x % ((256 ^ n : Nat) : Int)).toNat : Int) := by
    rw [Int.fmod_eq_emod_of_nonneg _ (Int.le_of_lt hpos), Int.toNat_of_nonneg (Int.emod_nonneg _ (Int.ne_of_gt hpos))]
  rw [hm]
  generalize (x % ((256 ^ n : Nat) : Int)).toNat = m
  simp only [List.map_map]
  refine List.map_congr_left fun k _ => ?_
  show (((m / 256 ^ k % 256).toUInt8.toNat : Nat) : Int) = Int.fmod (Int.fdiv (m : Int) (256 ^ ((0 : Int) + (k : Int)).toNat)) 256
  rw [show ((0 : Int) + (k : Int)).toNat = k from by omega, p256_cast, Int.fdiv_eq_ediv_of_nonneg _ (Int.natCast_nonneg _), Int.fmod_eq_emod_of_nonneg _ (by decide)]
  have e : (m / 256 ^ k % 256).toUInt8.toNat = m / 256 ^ k % 256 := by
    show (m / 256 ^ k % 256) % 256 = m / 256 ^ k % 256
    exact Nat.mod_mod _ _
  rw [e, Int.natCast_emod, Int.natCast_ediv]
  rfl
end Mine
end
section
open PySem PySem.W PyProof.Rows PySem.Calls
namespace Mine
/-- a kind: its row, its class, and what the text's defs give of it -/
structure KindOk (w : World) (p : Program) (loose : List Str) (mean : ExcName → Option Value) (mg mb : Str → Option Value) (k : Int) (C : Addr) (wd lo hi : Int) (nm : Str) : Prop where
  row : rowTab[k.toNat]? = some (wd, lo, hi, nm)
  fl : ([Value.ref 61, Value.ref 75, Value.ref 89, Value.ref 103, Value.ref 117, Value.ref 131, Value.ref 145, Value.ref 159, Value.ref 173, Value.ref 187, Value.ref 199, Value.ref 211] : List Value)[k.toNat]? = some (Value.ref C)
  told : ∀ t, Ct w p loose mean mg mb 260 3 [.int k t] (fun v ex => v = .bool true ∧ ex = [])
  valid : ∀ x t, Ct w p loose mean mg mb 220 2 [.int x t, .ref C] (fun v ex => v = .bool (decide (lo ≤ x ∧ x ≤ hi)) ∧ ex = [])
  enforced : ∀ x t, x.natAbs.log2 < 1920 → Ct0 w p loose mean mg mb 253 3 [.int x t, .ref C] (fun v ex => v = .bool (decide (lo ≤ x ∧ x ≤ hi)) ∧ ex = [])
  within : ∀ x t t', lo ≤ x → x ≤ hi → Ct w p loose mean mg mb 267 3 [.int k t, .int x t'] (fun v ex => v = .bool true ∧ ex = [])
  ends : -9223372036854775808 ≤ lo ∧ lo < hi ∧ hi ≤ 18446744073709551615

theorem attrs_0 (w : World) (hw : prg = PySem.Challenge.rw_eg5009_01.row.prog) : HasAttr (hd.heap_39 w.params) 61 "bytewidth" (.int 1 362) ∧ HasAttr (hd.heap_39 w.params) 61 "name" (.str "bool" 367) ∧ HasAttr (hd.heap_39 w.params) 61 "packer_type" (.ref 43) ∧ HasAttr (hd.heap_39 w.params) 61 "min_val" (.bool false) ∧ HasAttr (hd.heap_39 w.params) 61 "max_val" (.bool true) ∧ HasAttr (hd.heap_39 w.params) 61 "py_type" (.type "bool") ∧ specialIn (hd.heap_39 w.params) (.ref 61) "__getattribute__" = some (some (.builtin "type.__getattribute__")) ∧ (hd.heap_39 w.params).lookup 43 = some ⟨.type "_struct.Struct", none, .fields #[.bytes #[63] 322], #[]⟩ := by
  revert hw
  k_fill
  intro hw
  have hr : readsIn (hd.heap_39 w.params) 61 (.type "type") = true := by k_is
  exact ⟨hasAttr_of hr (by k_is) rfl, hasAttr_of hr (by k_is) rfl, hasAttr_of hr (by k_is) rfl, hasAttr_of hr (by k_is) rfl, hasAttr_of hr (by k_is) rfl, hasAttr_type hr (by k_is) (by k_is) typeOf_bool noget_bool, by k_is, by k_is⟩
theorem kind_0 (w : World) (p : Program) (loose : List Str) (mean : ExcName → Option Value) (mg mb : Str → Option Value) : KindOk w p loose mean mg mb 0 61 1 0 1 "bool" := by
  obtain ⟨hbw, hnm, hpk, hmin, hmax, hpy, hga, hl⟩ := attrs_0 w rfl
  exact ⟨rfl, rfl, fun t => told_bool w p loose mean mg mb 1 "bool" 61 t _ _ rfl rfl hbw hmin hmax hnm,
    fun x t => valid_bool w p loose mean mg mb x t 0 61 hmin hmax,
    fun x t hx => enforced_bool w p loose mean mg mb x "bool" t _ 61 hmin hmax hnm hx (text_len hx) (by decide),
    fun x t t' h0 h1 => within_bool w p loose mean mg mb x 1 0 1 "bool" 61 43 t t' rfl rfl (by decide) (by decide) hga hpk (packer_t hl) hpy h0 h1 (by omega) (octs_same x 1 (by decide)), by decide⟩
theorem attrs_1 (w : World) (hw : prg = PySem.Challenge.rw_eg5009_01.row.prog) : HasAttr (hd.heap_39 w.params) 75 "bytewidth" (.int 1 390) ∧ HasAttr (hd.heap_39 w.params) 75 "name" (.str "uint8" 401) ∧ HasAttr (hd.heap_39 w.params) 75 "packer_type" (.ref 44) ∧ HasAttr (hd.heap_39 w.params) 75 "min_val" (.int (0) 392) ∧ HasAttr (hd.heap_39 w.params) 75 "max_val" (.int 255 398) ∧ HasAttr (hd.heap_39 w.params) 75 "py_type" (.type "int") ∧ specialIn (hd.heap_39 w.params) (.ref 75) "__getattribute__" = some (some (.builtin "type.__getattribute__")) ∧ (hd.heap_39 w.params).lookup 44 = some ⟨.type "_struct.Struct", none, .fields #[.bytes #[60, 66] 325], #[]⟩ := by
  revert hw
  k_fill
  intro hw
  have hr : readsIn (hd.heap_39 w.params) 75 (.type "type") = true := by k_is
  exact ⟨hasAttr_of hr (by k_is) rfl, hasAttr_of hr (by k_is) rfl, hasAttr_of hr (by k_is) rfl, hasAttr_of hr (by k_is) rfl, hasAttr_of hr (by k_is) rfl, hasAttr_type hr (by k_is) (by k_is) typeOf_int noget_int, by k_is, by k_is⟩
theorem kind_1 (w : World) (p : Program) (loose : List Str) (mean : ExcName → Option Value) (mg mb : Str → Option Value) : KindOk w p loose mean mg mb 1 75 1 (0) 255 "uint8" := by
  obtain ⟨hbw, hnm, hpk, hmin, hmax, hpy, hga, hl⟩ := attrs_1 w rfl
  exact ⟨rfl, rfl, fun t => told_int w p loose mean mg mb 1 1 (0) 255 "uint8" 75 t _ _ _ _ (by decide) (by decide) (by decide) rfl rfl hbw hmin hmax hnm,
    fun x t => valid_int w p loose mean mg mb x (0) 255 t _ _ 0 75 hmin hmax,
    fun x t hx => enforced_int w p loose mean mg mb x (0) 255 "uint8" t _ _ _ 75 hmin hmax hnm hx (text_len hx) (by decide),
    fun x t t' h0 h1 => within_int w p loose mean mg mb 1 x 1 (0) 255 "uint8" 75 44 t t' (by decide) (by decide) (by decide) rfl rfl (by decide) (by decide) hga hpk (packer_B hl) hpy h0 h1 (octs_same x 1 (by decide)), by decide⟩
theorem attrs_2 (w : World) (hw : prg = PySem.Challenge.rw_eg5009_01.row.prog) : HasAttr (hd.heap_39 w.params) 89 "bytewidth" (.int 2 424) ∧ HasAttr (hd.heap_39 w.params) 89 "name" (.str "uint16" 435) ∧ HasAttr (hd.heap_39 w.params) 89 "packer_type" (.ref 45) ∧ HasAttr (hd.heap_39 w.params) 89 "min_val" (.int (0) 426) ∧ HasAttr (hd.heap_39 w.params) 89 "max_val" (.int 65535 432) ∧ HasAttr (hd.heap_39 w.params) 89 "py_type" (.type "int") ∧ specialIn (hd.heap_39 w.params) (.ref 89) "__getattribute__" = some (some (.builtin "type.__getattribute__")) ∧ (hd.heap_39 w.params).lookup 45 = some ⟨.type "_struct.Struct", none, .fields #[.bytes #[60, 72] 328], #[]⟩ := by
  revert hw
  k_fill
  intro hw
  have hr : readsIn (hd.heap_39 w.params) 89 (.type "type") = true := by k_is
  exact ⟨hasAttr_of hr (by k_is) rfl, hasAttr_of hr (by k_is) rfl, hasAttr_of hr (by k_is) rfl, hasAttr_of hr (by k_is) rfl, hasAttr_of hr (by k_is) rfl, hasAttr_type hr (by k_is) (by k_is) typeOf_int noget_int, by k_is, by k_is⟩
theorem kind_2 (w : World) (p : Program) (loose : List Str) (mean : ExcName → Option Value) (mg mb : Str → Option Value) : KindOk w p loose mean mg mb 2 89 2 (0) 65535 "uint16" := by
  obtain ⟨hbw, hnm, hpk, hmin, hmax, hpy, hga, hl⟩ := attrs_2 w rfl
  exact ⟨rfl, rfl, fun t => told_int w p loose mean mg mb 2 2 (0) 65535 "uint16" 89 t _ _ _ _ (by decide) (by decide) (by decide) rfl rfl hbw hmin hmax hnm,
    fun x t => valid_int w p loose mean mg mb x (0) 65535 t _ _ 0 89 hmin hmax,
    fun x t hx => enforced_int w p loose mean mg mb x (0) 65535 "uint16" t _ _ _ 89 hmin hmax hnm hx (text_len hx) (by decide),
    fun x t t' h0 h1 => within_int w p loose mean mg mb 2 x 2 (0) 65535 "uint16" 89 45 t t' (by decide) (by decide) (by decide) rfl rfl (by decide) (by decide) hga hpk (packer_H hl) hpy h0 h1 (octs_same x 2 (by decide)), by decide⟩
theorem attrs_3 (w : World) (hw : prg = PySem.Challenge.rw_eg5009_01.row.prog) : HasAttr (hd.heap_39 w.params) 103 "bytewidth" (.int 4 458) ∧ HasAttr (hd.heap_39 w.params) 103 "name" (.str "uint32" 469) ∧ HasAttr (hd.heap_39 w.params) 103 "packer_type" (.ref 46) ∧ HasAttr (hd.heap_39 w.params) 103 "min_val" (.int (0) 460) ∧ HasAttr (hd.heap_39 w.params) 103 "max_val" (.int 4294967295 466) ∧ HasAttr (hd.heap_39 w.params) 103 "py_type" (.type "int") ∧ specialIn (hd.heap_39 w.params) (.ref 103) "__getattribute__" = some (some (.builtin "type.__getattribute__")) ∧ (hd.heap_39 w.params).lookup 46 = some ⟨.type "_struct.Struct", none, .fields #[.bytes #[60, 73] 331], #[]⟩ := by
  revert hw
  k_fill
  intro hw
  have hr : readsIn (hd.heap_39 w.params) 103 (.type "type") = true := by k_is
  exact ⟨hasAttr_of hr (by k_is) rfl, hasAttr_of hr (by k_is) rfl, hasAttr_of hr (by k_is) rfl, hasAttr_of hr (by k_is) rfl, hasAttr_of hr (by k_is) rfl, hasAttr_type hr (by k_is) (by k_is) typeOf_int noget_int, by k_is, by k_is⟩
theorem kind_3 (w : World) (p : Program) (loose : List Str) (mean : ExcName → Option Value) (mg mb : Str → Option Value) : KindOk w p loose mean mg mb 3 103 4 (0) 4294967295 "uint32" := by
  obtain ⟨hbw, hnm, hpk, hmin, hmax, hpy, hga, hl⟩ := attrs_3 w rfl
  exact ⟨rfl, rfl, fun t => told_int w p loose mean mg mb 3 4 (0) 4294967295 "uint32" 103 t _ _ _ _ (by decide) (by decide) (by decide) rfl rfl hbw hmin hmax hnm,
    fun x t => valid_int w p loose mean mg mb x (0) 4294967295 t _ _ 0 103 hmin hmax,
    fun x t hx => enforced_int w p loose mean mg mb x (0) 4294967295 "uint32" t _ _ _ 103 hmin hmax hnm hx (text_len hx) (by decide),
    fun x t t' h0 h1 => within_int w p loose mean mg mb 3 x 4 (0) 4294967295 "uint32" 103 46 t t' (by decide) (by decide) (by decide) rfl rfl (by decide) (by decide) hga hpk (packer_I hl) hpy h0 h1 (octs_same x 4 (by decide)), by decide⟩
theorem attrs_4 (w : World) (hw : prg = PySem.Challenge.rw_eg5009_01.row.prog) : HasAttr (hd.heap_39 w.params) 117 "bytewidth" (.int 8 492) ∧ HasAttr (hd.heap_39 w.params) 117 "name" (.str "uint64" 503) ∧ HasAttr (hd.heap_39 w.params) 117 "packer_type" (.ref 47) ∧ HasAttr (hd.heap_39 w.params) 117 "min_val" (.int (0) 494) ∧ HasAttr (hd.heap_39 w.params) 117 "max_val" (.int 18446744073709551615 500) ∧ HasAttr (hd.heap_39 w.params) 117 "py_type" (.type "int") ∧ specialIn (hd.heap_39 w.params) (.ref 117) "__getattribute__" = some (some (.builtin "type.__getattribute__")) ∧ (hd.heap_39 w.params).lookup 47 = some ⟨.type "_struct.Struct", none, .fields #[.bytes #[60, 81] 334], #[]⟩ := by
  revert hw
  k_fill
  intro hw
  have hr : readsIn (hd.heap_39 w.params) 117 (.type "type") = true := by k_is
  exact ⟨hasAttr_of hr (by k_is) rfl, hasAttr_of hr (by k_is) rfl, hasAttr_of hr (by k_is) rfl, hasAttr_of hr (by k_is) rfl, hasAttr_of hr (by k_is) rfl, hasAttr_type hr (by k_is) (by k_is) typeOf_int noget_int, by k_is, by k_is⟩
theorem kind_4 (w : World) (p : Program) (loose : List Str) (mean : ExcName → Option Value) (mg mb : Str → Option Value) : KindOk w p loose mean mg mb 4 117 8 (0) 18446744073709551615 "uint64" := by
  obtain ⟨hbw, hnm, hpk, hmin, hmax, hpy, hga, hl⟩ := attrs_4 w rfl
  exact ⟨rfl, rfl, fun t => told_int w p loose mean mg mb 4 8 (0) 18446744073709551615 "uint64" 117 t _ _ _ _ (by decide) (by decide) (by decide) rfl rfl hbw hmin hmax hnm,
    fun x t => valid_int w p loose mean mg mb x (0) 18446744073709551615 t _ _ 0 117 hmin hmax,
    fun x t hx => enforced_int w p loose mean mg mb x (0) 18446744073709551615 "uint64" t _ _ _ 117 hmin hmax hnm hx (text_len hx) (by decide),
    fun x t t' h0 h1 => within_int w p loose mean mg mb 4 x 8 (0) 18446744073709551615 "uint64" 117 47 t t' (by decide) (by decide) (by decide) rfl rfl (by decide) (by decide) hga hpk (packer_Q hl) hpy h0 h1 (octs_same x 8 (by decide)), by decide⟩
theorem attrs_5 (w : World) (hw : prg = PySem.Challenge.rw_eg5009_01.row.prog) : HasAttr (hd.heap_39 w.params) 131 "bytewidth" (.int 1 526) ∧ HasAttr (hd.heap_39 w.params) 131 "name" (.str "int8" 540) ∧ HasAttr (hd.heap_39 w.params) 131 "packer_type" (.ref 48) ∧ HasAttr (hd.heap_39 w.params) 131 "min_val" (.int (-128) 531) ∧ HasAttr (hd.heap_39 w.params) 131 "max_val" (.int 127 537) ∧ HasAttr (hd.heap_39 w.params) 131 "py_type" (.type "int") ∧ specialIn (hd.heap_39 w.params) (.ref 131) "__getattribute__" = some (some (.builtin "type.__getattribute__")) ∧ (hd.heap_39 w.params).lookup 48 = some ⟨.type "_struct.Struct", none, .fields #[.bytes #[60, 98] 337], #[]⟩ := by
  revert hw
  k_fill
  intro hw
  have hr : readsIn (hd.heap_39 w.params) 131 (.type "type") = true := by k_is
  exact ⟨hasAttr_of hr (by k_is) rfl, hasAttr_of hr (by k_is) rfl, hasAttr_of hr (by k_is) rfl, hasAttr_of hr (by k_is) rfl, hasAttr_of hr (by k_is) rfl, hasAttr_type hr (by k_is) (by k_is) typeOf_int noget_int, by k_is, by k_is⟩
theorem kind_5 (w : World) (p : Program) (loose : List Str) (mean : ExcName → Option Value) (mg mb : Str → Option Value) : KindOk w p loose mean mg mb 5 131 1 (-128) 127 "int8" := by
  obtain ⟨hbw, hnm, hpk, hmin, hmax, hpy, hga, hl⟩ := attrs_5 w rfl
  exact ⟨rfl, rfl, fun t => told_int w p loose mean mg mb 5 1 (-128) 127 "int8" 131 t _ _ _ _ (by decide) (by decide) (by decide) rfl rfl hbw hmin hmax hnm,
    fun x t => valid_int w p loose mean mg mb x (-128) 127 t _ _ 0 131 hmin hmax,
    fun x t hx => enforced_int w p loose mean mg mb x (-128) 127 "int8" t _ _ _ 131 hmin hmax hnm hx (text_len hx) (by decide),
    fun x t t' h0 h1 => within_int w p loose mean mg mb 5 x 1 (-128) 127 "int8" 131 48 t t' (by decide) (by decide) (by decide) rfl rfl (by decide) (by decide) hga hpk (packer_b hl) hpy h0 h1 (octs_same x 1 (by decide)), by decide⟩
theorem attrs_6 (w : World) (hw : prg = PySem.Challenge.rw_eg5009_01.row.prog) : HasAttr (hd.heap_39 w.params) 145 "bytewidth" (.int 2 563) ∧ HasAttr (hd.heap_39 w.params) 145 "name" (.str "int16" 577) ∧ HasAttr (hd.heap_39 w.params) 145 "packer_type" (.ref 49) ∧ HasAttr (hd.heap_39 w.params) 145 "min_val" (.int (-32768) 568) ∧ HasAttr (hd.heap_39 w.params) 145 "max_val" (.int 32767 574) ∧ HasAttr (hd.heap_39 w.params) 145 "py_type" (.type "int") ∧ specialIn (hd.heap_39 w.params) (.ref 145) "__getattribute__" = some (some (.builtin "type.__getattribute__")) ∧ (hd.heap_39 w.params).lookup 49 = some ⟨.type "_struct.Struct", none, .fields #[.bytes #[60, 104] 340], #[]⟩ := by
  revert hw
  k_fill
  intro hw
  have hr : readsIn (hd.heap_39 w.params) 145 (.type "type") = true := by k_is
  exact ⟨hasAttr_of hr (by k_is) rfl, hasAttr_of hr (by k_is) rfl, hasAttr_of hr (by k_is) rfl, hasAttr_of hr (by k_is) rfl, hasAttr_of hr (by k_is) rfl, hasAttr_type hr (by k_is) (by k_is) typeOf_int noget_int, by k_is, by k_is⟩
theorem kind_6 (w : World) (p : Program) (loose : List Str) (mean : ExcName → Option Value) (mg mb : Str → Option Value) : KindOk w p loose mean mg mb 6 145 2 (-32768) 32767 "int16" := by
  obtain ⟨hbw, hnm, hpk, hmin, hmax, hpy, hga, hl⟩ := attrs_6 w rfl
  exact ⟨rfl, rfl, fun t => told_int w p loose mean mg mb 6 2 (-32768) 32767 "int16" 145 t _ _ _ _ (by decide) (by decide) (by decide) rfl rfl hbw hmin hmax hnm,
    fun x t => valid_int w p loose mean mg mb x (-32768) 32767 t _ _ 0 145 hmin hmax,
    fun x t hx => enforced_int w p loose mean mg mb x (-32768) 32767 "int16" t _ _ _ 145 hmin hmax hnm hx (text_len hx) (by decide),
    fun x t t' h0 h1 => within_int w p loose mean mg mb 6 x 2 (-32768) 32767 "int16" 145 49 t t' (by decide) (by decide) (by decide) rfl rfl (by decide) (by decide) hga hpk (packer_h hl) hpy h0 h1 (octs_same x 2 (by decide)), by decide⟩
theorem attrs_7 (w : World) (hw : prg = PySem.Challenge.rw_eg5009_01.row.prog) : HasAttr (hd.heap_39 w.params) 159 "bytewidth" (.int 4 600) ∧ HasAttr (hd.heap_39 w.params) 159 "name" (.str "int32" 614) ∧ HasAttr (hd.heap_39 w.params) 159 "packer_type" (.ref 50) ∧ HasAttr (hd.heap_39 w.params) 159 "min_val" (.int (-2147483648) 605) ∧ HasAttr (hd.heap_39 w.params) 159 "max_val" (.int 2147483647 611) ∧ HasAttr (hd.heap_39 w.params) 159 "py_type" (.type "int") ∧ specialIn (hd.heap_39 w.params) (.ref 159) "__getattribute__" = some (some (.builtin "type.__getattribute__")) ∧ (hd.heap_39 w.params).lookup 50 = some ⟨.type "_struct.Struct", none, .fields #[.bytes #[60, 105] 343], #[]⟩ := by
  revert hw
  k_fill
  intro hw
  have hr : readsIn (hd.heap_39 w.params) 159 (.type "type") = true := by k_is
  exact ⟨hasAttr_of hr (by k_is) rfl, hasAttr_of hr (by k_is) rfl, hasAttr_of hr (by k_is) rfl, hasAttr_of hr (by k_is) rfl, hasAttr_of hr (by k_is) rfl, hasAttr_type hr (by k_is) (by k_is) typeOf_int noget_int, by k_is, by k_is⟩
theorem kind_7 (w : World) (p : Program) (loose : List Str) (mean : ExcName → Option Value) (mg mb : Str → Option Value) : KindOk w p loose mean mg mb 7 159 4 (-2147483648) 2147483647 "int32" := by
  obtain ⟨hbw, hnm, hpk, hmin, hmax, hpy, hga, hl⟩ := attrs_7 w rfl
  exact ⟨rfl, rfl, fun t => told_int w p loose mean mg mb 7 4 (-2147483648) 2147483647 "int32" 159 t _ _ _ _ (by decide) (by decide) (by decide) rfl rfl hbw hmin hmax hnm,
    fun x t => valid_int w p loose mean mg mb x (-2147483648) 2147483647 t _ _ 0 159 hmin hmax,
    fun x t hx => enforced_int w p loose mean mg mb x (-2147483648) 2147483647 "int32" t _ _ _ 159 hmin hmax hnm hx (text_len hx) (by decide),
    fun x t t' h0 h1 => within_int w p loose mean mg mb 7 x 4 (-2147483648) 2147483647 "int32" 159 50 t t' (by decide) (by decide) (by decide) rfl rfl (by decide) (by decide) hga hpk (packer_i hl) hpy h0 h1 (octs_same x 4 (by decide)), by decide⟩
theorem attrs_8 (w : World) (hw : prg = PySem.Challenge.rw_eg5009_01.row.prog) : HasAttr (hd.heap_39 w.params) 173 "bytewidth" (.int 8 637) ∧ HasAttr (hd.heap_39 w.params) 173 "name" (.str "int64" 651) ∧ HasAttr (hd.heap_39 w.params) 173 "packer_type" (.ref 51) ∧ HasAttr (hd.heap_39 w.params) 173 "min_val" (.int (-9223372036854775808) 642) ∧ HasAttr (hd.heap_39 w.params) 173 "max_val" (.int 9223372036854775807 648) ∧ HasAttr (hd.heap_39 w.params) 173 "py_type" (.type "int") ∧ specialIn (hd.heap_39 w.params) (.ref 173) "__getattribute__" = some (some (.builtin "type.__getattribute__")) ∧ (hd.heap_39 w.params).lookup 51 = some ⟨.type "_struct.Struct", none, .fields #[.bytes #[60, 113] 346], #[]⟩ := by
  revert hw
  k_fill
  intro hw
  have hr : readsIn (hd.heap_39 w.params) 173 (.type "type") = true := by k_is
  exact ⟨hasAttr_of hr (by k_is) rfl, hasAttr_of hr (by k_is) rfl, hasAttr_of hr (by k_is) rfl, hasAttr_of hr (by k_is) rfl, hasAttr_of hr (by k_is) rfl, hasAttr_type hr (by k_is) (by k_is) typeOf_int noget_int, by k_is, by k_is⟩
theorem kind_8 (w : World) (p : Program) (loose : List Str) (mean : ExcName → Option Value) (mg mb : Str → Option Value) : KindOk w p loose mean mg mb 8 173 8 (-9223372036854775808) 9223372036854775807 "int64" := by
  obtain ⟨hbw, hnm, hpk, hmin, hmax, hpy, hga, hl⟩ := attrs_8 w rfl
  exact ⟨rfl, rfl, fun t => told_int w p loose mean mg mb 8 8 (-9223372036854775808) 9223372036854775807 "int64" 173 t _ _ _ _ (by decide) (by decide) (by decide) rfl rfl hbw hmin hmax hnm,
    fun x t => valid_int w p loose mean mg mb x (-9223372036854775808) 9223372036854775807 t _ _ 0 173 hmin hmax,
    fun x t hx => enforced_int w p loose mean mg mb x (-9223372036854775808) 9223372036854775807 "int64" t _ _ _ 173 hmin hmax hnm hx (text_len hx) (by decide),
    fun x t t' h0 h1 => within_int w p loose mean mg mb 8 x 8 (-9223372036854775808) 9223372036854775807 "int64" 173 51 t t' (by decide) (by decide) (by decide) rfl rfl (by decide) (by decide) hga hpk (packer_q hl) hpy h0 h1 (octs_same x 8 (by decide)), by decide⟩
theorem attrs_9 (w : World) (hw : prg = PySem.Challenge.rw_eg5009_01.row.prog) : HasAttr (hd.heap_39 w.params) 187 "bytewidth" (.int 4 600) ∧ HasAttr (hd.heap_39 w.params) 187 "name" (.str "int32" 614) ∧ HasAttr (hd.heap_39 w.params) 187 "packer_type" (.ref 50) ∧ HasAttr (hd.heap_39 w.params) 187 "min_val" (.int (-2147483648) 605) ∧ HasAttr (hd.heap_39 w.params) 187 "max_val" (.int 2147483647 611) ∧ HasAttr (hd.heap_39 w.params) 187 "py_type" (.type "int") ∧ specialIn (hd.heap_39 w.params) (.ref 187) "__getattribute__" = some (some (.builtin "type.__getattribute__")) ∧ (hd.heap_39 w.params).lookup 50 = some ⟨.type "_struct.Struct", none, .fields #[.bytes #[60, 105] 343], #[]⟩ := by
  revert hw
  k_fill
  intro hw
  have hr : readsIn (hd.heap_39 w.params) 187 (.type "type") = true := by k_is
  exact ⟨hasAttr_of hr (by k_is) rfl, hasAttr_of hr (by k_is) rfl, hasAttr_of hr (by k_is) rfl, hasAttr_of hr (by k_is) rfl, hasAttr_of hr (by k_is) rfl, hasAttr_type hr (by k_is) (by k_is) typeOf_int noget_int, by k_is, by k_is⟩
theorem kind_9 (w : World) (p : Program) (loose : List Str) (mean : ExcName → Option Value) (mg mb : Str → Option Value) : KindOk w p loose mean mg mb 9 187 4 (-2147483648) 2147483647 "int32" := by
  obtain ⟨hbw, hnm, hpk, hmin, hmax, hpy, hga, hl⟩ := attrs_9 w rfl
  exact ⟨rfl, rfl, fun t => told_int w p loose mean mg mb 9 4 (-2147483648) 2147483647 "int32" 187 t _ _ _ _ (by decide) (by decide) (by decide) rfl rfl hbw hmin hmax hnm,
    fun x t => valid_int w p loose mean mg mb x (-2147483648) 2147483647 t _ _ 0 187 hmin hmax,
    fun x t hx => enforced_int w p loose mean mg mb x (-2147483648) 2147483647 "int32" t _ _ _ 187 hmin hmax hnm hx (text_len hx) (by decide),
    fun x t t' h0 h1 => within_int w p loose mean mg mb 9 x 4 (-2147483648) 2147483647 "int32" 187 50 t t' (by decide) (by decide) (by decide) rfl rfl (by decide) (by decide) hga hpk (packer_i hl) hpy h0 h1 (octs_same x 4 (by decide)), by decide⟩
theorem attrs_10 (w : World) (hw : prg = PySem.Challenge.rw_eg5009_01.row.prog) : HasAttr (hd.heap_39 w.params) 199 "bytewidth" (.int 4 458) ∧ HasAttr (hd.heap_39 w.params) 199 "name" (.str "uint32" 469) ∧ HasAttr (hd.heap_39 w.params) 199 "packer_type" (.ref 46) ∧ HasAttr (hd.heap_39 w.params) 199 "min_val" (.int (0) 460) ∧ HasAttr (hd.heap_39 w.params) 199 "max_val" (.int 4294967295 466) ∧ HasAttr (hd.heap_39 w.params) 199 "py_type" (.type "int") ∧ specialIn (hd.heap_39 w.params) (.ref 199) "__getattribute__" = some (some (.builtin "type.__getattribute__")) ∧ (hd.heap_39 w.params).lookup 46 = some ⟨.type "_struct.Struct", none, .fields #[.bytes #[60, 73] 331], #[]⟩ := by
  revert hw
  k_fill
  intro hw
  have hr : readsIn (hd.heap_39 w.params) 199 (.type "type") = true := by k_is
  exact ⟨hasAttr_of hr (by k_is) rfl, hasAttr_of hr (by k_is) rfl, hasAttr_of hr (by k_is) rfl, hasAttr_of hr (by k_is) rfl, hasAttr_of hr (by k_is) rfl, hasAttr_type hr (by k_is) (by k_is) typeOf_int noget_int, by k_is, by k_is⟩
theorem kind_10 (w : World) (p : Program) (loose : List Str) (mean : ExcName → Option Value) (mg mb : Str → Option Value) : KindOk w p loose mean mg mb 10 199 4 (0) 4294967295 "uint32" := by
  obtain ⟨hbw, hnm, hpk, hmin, hmax, hpy, hga, hl⟩ := attrs_10 w rfl
  exact ⟨rfl, rfl, fun t => told_int w p loose mean mg mb 10 4 (0) 4294967295 "uint32" 199 t _ _ _ _ (by decide) (by decide) (by decide) rfl rfl hbw hmin hmax hnm,
    fun x t => valid_int w p loose mean mg mb x (0) 4294967295 t _ _ 0 199 hmin hmax,
    fun x t hx => enforced_int w p loose mean mg mb x (0) 4294967295 "uint32" t _ _ _ 199 hmin hmax hnm hx (text_len hx) (by decide),
    fun x t t' h0 h1 => within_int w p loose mean mg mb 10 x 4 (0) 4294967295 "uint32" 199 46 t t' (by decide) (by decide) (by decide) rfl rfl (by decide) (by decide) hga hpk (packer_I hl) hpy h0 h1 (octs_same x 4 (by decide)), by decide⟩
theorem attrs_11 (w : World) (hw : prg = PySem.Challenge.rw_eg5009_01.row.prog) : HasAttr (hd.heap_39 w.params) 211 "bytewidth" (.int 2 424) ∧ HasAttr (hd.heap_39 w.params) 211 "name" (.str "uint16" 435) ∧ HasAttr (hd.heap_39 w.params) 211 "packer_type" (.ref 45) ∧ HasAttr (hd.heap_39 w.params) 211 "min_val" (.int (0) 426) ∧ HasAttr (hd.heap_39 w.params) 211 "max_val" (.int 65535 432) ∧ HasAttr (hd.heap_39 w.params) 211 "py_type" (.type "int") ∧ specialIn (hd.heap_39 w.params) (.ref 211) "__getattribute__" = some (some (.builtin "type.__getattribute__")) ∧ (hd.heap_39 w.params).lookup 45 = some ⟨.type "_struct.Struct", none, .fields #[.bytes #[60, 72] 328], #[]⟩ := by
  revert hw
  k_fill
  intro hw
  have hr : readsIn (hd.heap_39 w.params) 211 (.type "type") = true := by k_is
  exact ⟨hasAttr_of hr (by k_is) rfl, hasAttr_of hr (by k_is) rfl, hasAttr_of hr (by k_is) rfl, hasAttr_of hr (by k_is) rfl, hasAttr_of hr (by k_is) rfl, hasAttr_type hr (by k_is) (by k_is) typeOf_int noget_int, by k_is, by k_is⟩
theorem kind_11 (w : World) (p : Program) (loose : List Str) (mean : ExcName → Option Value) (mg mb : Str → Option Value) : KindOk w p loose mean mg mb 11 211 2 (0) 65535 "uint16" := by
  obtain ⟨hbw, hnm, hpk, hmin, hmax, hpy, hga, hl⟩ := attrs_11 w rfl
  exact ⟨rfl, rfl, fun t => told_int w p loose mean mg mb 11 2 (0) 65535 "uint16" 211 t _ _ _ _ (by decide) (by decide) (by decide) rfl rfl hbw hmin hmax hnm,
    fun x t => valid_int w p loose mean mg mb x (0) 65535 t _ _ 0 211 hmin hmax,
    fun x t hx => enforced_int w p loose mean mg mb x (0) 65535 "uint16" t _ _ _ 211 hmin hmax hnm hx (text_len hx) (by decide),
    fun x t t' h0 h1 => within_int w p loose mean mg mb 11 x 2 (0) 65535 "uint16" 211 45 t t' (by decide) (by decide) (by decide) rfl rfl (by decide) (by decide) hga hpk (packer_H hl) hpy h0 h1 (octs_same x 2 (by decide)), by decide⟩
theorem kind_ok (w : World) (p : Program) (loose : List Str) (mean : ExcName → Option Value) (mg mb : Str → Option Value) {k : Int} (h0 : 0 ≤ k) (h12 : k < 12) : ∃ C wd lo hi nm, KindOk w p loose mean mg mb k C wd lo hi nm := by
  rcases (by omega : k = 0 ∨ k = 1 ∨ k = 2 ∨ k = 3 ∨ k = 4 ∨ k = 5 ∨ k = 6 ∨ k = 7 ∨ k = 8 ∨ k = 9 ∨ k = 10 ∨ k = 11) with rfl | rfl | rfl | rfl | rfl | rfl | rfl | rfl | rfl | rfl | rfl | rfl
  · exact ⟨_, _, _, _, _, kind_0 w p loose mean mg mb⟩
  · exact ⟨_, _, _, _, _, kind_1 w p loose mean mg mb⟩
  · exact ⟨_, _, _, _, _, kind_2 w p loose mean mg mb⟩
  · exact ⟨_, _, _, _, _, kind_3 w p loose mean mg mb⟩
  · exact ⟨_, _, _, _, _, kind_4 w p loose mean mg mb⟩
  · exact ⟨_, _, _, _, _, kind_5 w p loose mean mg mb⟩
  · exact ⟨_, _, _, _, _, kind_6 w p loose mean mg mb⟩
  · exact ⟨_, _, _, _, _, kind_7 w p loose mean mg mb⟩
  · exact ⟨_, _, _, _, _, kind_8 w p loose mean mg mb⟩
  · exact ⟨_, _, _, _, _, kind_9 w p loose mean mg mb⟩
  · exact ⟨_, _, _, _, _, kind_10 w p loose mean mg mb⟩
  · exact ⟨_, _, _, _, _, kind_11 w p loose mean mg mb⟩
end Mine
end
section
open PySem PySem.W PyProof.Rows PySem.Calls
namespace Mine
/-- ten to the hundredth -/
@[irreducible] def big : Int := 10 ^ 100
theorem big_eq : big = 10 ^ 100 := by unfold big; rfl
theorem big_pos : 0 < big := by rw [big_eq]; decide
theorem big_ne : big ≠ 0 := Int.ne_of_gt big_pos
section
variable {prog : Program} {w : World} {A : Around} {E : Value → Shared → Prop} {s : Shared} {t u : vTok}
theorem pow_big {Q : Value → Shared → Prop} (h : Q (.int big s.toks) { s with toks := s.toks + 1 }) : wpAny (model prog w) A (binaryOp .Pow (.int 10 t) (.int 100 u)) Q E s :=
  pow_int_small (by decide) (by decide) (by decide) (by rw [big_eq] at h; exact h)
theorem mod_big {x : Int} {Q : Value → Shared → Prop} (h : Q (.int (x.fmod big) s.toks) { s with toks := s.toks + 1 }) : wpAny (model prog w) A (binaryOp .Mod (.int x t) (.int big u)) Q E s :=
  mod_int' big_ne h
end
theorem log2_of {n : Nat} (h : n < 2 ^ 1920) : n.log2 < 1920 := by
  by_cases h0 : n = 0
  · subst h0; decide
  · exact (Nat.log2_lt h0).mpr h
theorem sz_of {x : Int} (h1 : -(2 * big) < x) (h2 : x < 2 * big) : x.natAbs.log2 < 1920 := by
  refine log2_of ?_
  have hb : (2 : Int) * big ≤ ((2 ^ 1920 : Nat) : Int) := by rw [big_eq]; decide +kernel
  omega
def cut (k' : Int) : Int := if 0 - big < k' ∧ k' < big then k' else if 0 - big < k' ∧ ¬k' < big then k'.fmod big else k'.fmod big
theorem big_big : 18446744073709551616 * 2 ≤ big := by rw [big_eq]; decide
theorem cut_lo (k : Int) : -big < cut k := by
  unfold cut
  have h0 := Int.fmod_nonneg_of_pos k big_pos
  have hb := big_pos
  split
  · omega
  · split <;> omega
theorem cut_hi (k : Int) : cut k < big := by
  unfold cut
  have h0 := Int.fmod_lt_of_pos k big_pos
  split
  · omega
  · split <;> omega
theorem asked_sz {lo hi : Int} {ks : List Int} (he : -9223372036854775808 ≤ lo ∧ lo < hi ∧ hi ≤ 18446744073709551615) : ∀ n ∈ [lo - 1, lo, hi, hi + 1, 0, 1, 0 - 1] ++ List.map (fun k' => if 0 - big < k' ∧ k' < big then k' else if 0 - big < k' ∧ ¬k' < big then k'.fmod big else k'.fmod big) ks ++ List.map (fun k' => lo + k'.fmod (hi - lo + 1)) (List.map (fun k' => if 0 - big < k' ∧ k' < big then k' else if 0 - big < k' ∧ ¬k' < big then k'.fmod big else k'.fmod big) ks), n.natAbs.log2 < 1920 := by
  intro n hn
  have hb := big_big
  rcases List.mem_append.mp hn with hn | hn
  · rcases List.mem_append.mp hn with hn | hn
    · simp only [List.mem_cons, List.not_mem_nil, or_false] at hn
      exact sz_of (by omega) (by omega)
    · obtain ⟨k, _, rfl⟩ := List.mem_map.mp hn
      have h1 := cut_lo k
      have h2 := cut_hi k
      unfold cut at h1 h2
      exact sz_of (by omega) (by omega)
  · obtain ⟨k, _, rfl⟩ := List.mem_map.mp hn
    have h1 := Int.fmod_nonneg_of_pos k (b := hi - lo + 1) (by omega)
    have h2 := Int.fmod_lt_of_pos k (b := hi - lo + 1) (by omega)
    exact sz_of (by omega) (by omega)
end Mine
end
section
open PySem PySem.W PyProof.Rows PySem.Calls
namespace Mine
def stepK : List Str := ["width", "name", "flags", "asked", "x", "due"]
section
variable {prog : Program} {w : World} {A : Around} {E : Value → Shared → Prop} {s : Shared} {env : Env} {h₀ : Heap} {body : List Stmt} {Q : Flow → Shared → Prop} {x : Str}
/-- the ledger between the outer loop's turns: the numbers' list and the two cells -/
def LedK (D c1 c2 : Addr) (nums : Obj) (c : Obj × Obj) : List (Addr × Obj) := [(D, nums), (c1, c.1), (c2, c.2)]
def CellsK (c : Obj × Obj) : Prop := (∃ v, c.1.data = .cell v) ∧ ∃ v, c.2.data = .cell v
abbrev EndK (D c1 c2 : Addr) (nums : Obj) (m₀ : Str → Option Value) (pre : List Int) : (Str → Option Value) → List (Addr × Obj) → Prop := KstS (LedK D c1 c2 nums) (fun _ => []) CellsK x stepK m₀ (fun _ _ => True) pre
theorem outer_loop {r D c1 c2 : Addr} {nums o1 o2 : Obj} {t₀ u₀ v₀ : vTok} {m₀ : Str → Option Value} {news : List (Addr × Obj)}
    (hh : A.handled = none) (hr : IsRange s.heap r 0 12 1 t₀ u₀ v₀) (F : Fr h₀ env.locals s.heap m₀) (N : News h₀ env.locals s.heap news) (hD : (D, nums) ∈ news) (h1 : (c1, o1) ∈ news) (h2 : (c2, o2) ∈ news) (d1 : ∃ v, o1.data = .cell v) (d2 : ∃ v, o2.data = .cell v)
    (turn : ∀ (o1 o2 : Obj) (pre : List Int) (k : Int) t (u : Str → Option Value) h tk own, 0 ≤ k → k < 12 → OwnOff own [D, c1, c2] → (∃ v, o1.data = .cell v) → (∃ v, o2.data = .cell v) →
      Fr h₀ env.locals h (fun y => if y = x then some (.int k t) else if stepK.contains y then u y else m₀ y) → News h₀ env.locals h ((D, nums) :: (c1, o1) :: (c2, o2) :: own) →
      wpAny (model prog w) A (execs body env) (InvPostN h₀ env.locals (EndK (x := x) D c1 c2 nums m₀ (pre ++ [k])) own [D, c1, c2] { s with heap := h, toks := tk } Q) E { s with heap := h, toks := tk })
    (done : ∀ (o1 o2 : Obj) (u : Str → Option Value) h tk, Fr h₀ env.locals h (fun y => if y = x then u y else if stepK.contains y then u y else m₀ y) → News h₀ env.locals h [(D, nums), (c1, o1), (c2, o2)] → Q .next { s with heap := h, toks := tk }) :
    wpAny (model prog w) A (pyIter (.ref r)) (fun it s₂ => LoopAtV prog w A h₀ env x body Q E it s₂) E s := by
  refine kst_range (n := 12) (LedK D c1 c2 nums) (fun _ => []) CellsK stepK (fun _ _ => True) (o1, o2) hh hr (by decide) (by decide) F
    (fun p hp => ?_) ⟨d1, d2⟩ (fun _ hp => nomatch hp) trivial ?_ ?_
  · rcases List.mem_cons.mp hp with rfl | hp
    · exact N _ hD
    · rcases List.mem_cons.mp hp with rfl | hp
      · exact N _ h1
      · rw [List.mem_singleton.mp hp]; exact N _ h2
  · intro c pre k t u h tk own hk hlt hoff hf _ F' N'
    exact turn c.1 c.2 pre k t u h tk own (by omega) (by omega) hoff hf.1 hf.2 F' N'
  · intro c u h tk hf _ F' N'
    exact done c.1 c.2 u h tk F' N'
theorem outer_end {D c1 c2 : Addr} {nums o1 o2 : Obj} {m₀ m' : Str → Option Value} {pre : List Int} {own news' : List (Addr × Obj)} {s₁ : Shared} {L : Addr} {h' : Heap} {tk : Nat}
    (F : Fr h₀ L h' m') (N : News h₀ L h' news') (hD : (D, nums) ∈ news') (h1 : (c1, o1) ∈ news') (h2 : (c2, o2) ∈ news') (d1 : ∃ v, o1.data = .cell v) (d2 : ∃ v, o2.data = .cell v) (ho : ∀ p ∈ own, p ∈ news')
    (hm : ∀ z, z ≠ x → stepK.contains z = false → m' z = m₀ z) : InvEndN h₀ L (EndK (x := x) D c1 c2 nums m₀ pre) own [D, c1, c2] s₁ { s₁ with heap := h', toks := tk } :=
  kst_end (o1, o2) F N (fun p hp => by
    rcases List.mem_cons.mp hp with rfl | hp
    · exact hD
    · rcases List.mem_cons.mp hp with rfl | hp
      · exact h1
      · rw [List.mem_singleton.mp hp]; exact h2) ho rfl ⟨d1, d2⟩ (fun _ hp => nomatch hp) (fun z hz _ hs => hm z hz hs) trivial

abbrev EndX (led : List (Addr × Obj)) (m₀ : Str → Option Value) (pre : List Int) : (Str → Option Value) → List (Addr × Obj) → Prop := KstS (σ := Unit) (fun _ => led) (fun _ => []) (fun _ => True) x ["due"] m₀ (fun _ _ => True) pre
theorem inner_loop {l : Addr} {vs : List Value} {ns : List Int} {nn : Nat} {led : List (Addr × Obj)} {m₀ : Str → Option Value}
    (hh : A.handled = none) (hl : (l, listOf vs.toArray nn) ∈ led) (hi : IntsAre vs ns) (F : Fr h₀ env.locals s.heap m₀) (N : News h₀ env.locals s.heap led)
    (turn : ∀ (pre : List Int) (n : Int) t (u : Str → Option Value) h tk own, n ∈ ns → OwnOff own (led.map (·.1)) →
      Fr h₀ env.locals h (fun y => if y = x then some (.int n t) else if (["due"] : List Str).contains y then u y else m₀ y) → News h₀ env.locals h (led ++ own) →
      wpAny (model prog w) A (execs body env) (InvPostN h₀ env.locals (EndX (x := x) led m₀ (pre ++ [n])) own (led.map (·.1)) { s with heap := h, toks := tk } Q) E { s with heap := h, toks := tk })
    (done : ∀ (u : Str → Option Value) h tk, Fr h₀ env.locals h (fun y => if y = x then u y else if (["due"] : List Str).contains y then u y else m₀ y) → News h₀ env.locals h led → Q .next { s with heap := h, toks := tk }) :
    wpAny (model prog w) A (pyIter (.ref l)) (fun it s₂ => LoopAtV prog w A h₀ env x body Q E it s₂) E s := by
  refine kst_listL (σ := Unit) (nn := nn) (fun _ => led) (fun _ => []) (fun _ => True) ["due"] (fun _ _ => True) () hh (fun _ => hl) hi F N trivial (fun _ hp => nomatch hp) trivial ?_ ?_
  · intro _ pre post n t u h tk own _ hn hoff _ _ F' N'
    exact turn pre n t u h tk own hn hoff F' N'
  · intro _ u h tk _ _ F' N'
    exact done u h tk F' N'
theorem inner_loop2 {l c1 c2 : Addr} {o1 o2 : Obj} {vs : List Value} {lo hi : Int} {b c : vTok} {fs gs : List Int} {nn : Nat} {led : List (Addr × Obj)} {m₀ : Str → Option Value}
    (hh : A.handled = none) (F : Fr h₀ env.locals s.heap m₀) (N : News h₀ env.locals s.heap led) (hl : (l, listOf vs.toArray nn) ∈ led) (hia : IntsAre vs ([lo - 1, lo, hi, hi + 1, 0, 1, 0 - 1] ++ fs ++ gs)) (d1 : o1.data = .cell (some (.int lo b))) (d2 : o2.data = .cell (some (.int hi c))) (h1 : (c1, o1) ∈ led) (h2 : (c2, o2) ∈ led) (hz : ∀ n ∈ [lo - 1, lo, hi, hi + 1, 0, 1, 0 - 1] ++ fs ++ gs, n.natAbs.log2 < 1920)
    (turn : ∀ (pre : List Int) (n : Int) t (u : Str → Option Value) h tk own own2, n.natAbs.log2 < 1920 → (∀ p ∈ led, p ∈ own2) → (∀ p ∈ own, p ∈ own2) →
      Fr h₀ env.locals h (fun y => if y = x then some (.int n t) else if (["due"] : List Str).contains y then u y else m₀ y) → News h₀ env.locals h ((c1, o1) :: (c2, o2) :: own2) →
      wpAny (model prog w) A (execs body env) (InvPostN h₀ env.locals (EndX (x := x) led m₀ (pre ++ [n])) own (led.map (·.1)) { s with heap := h, toks := tk } Q) E { s with heap := h, toks := tk })
    (done : ∀ (u : Str → Option Value) h tk, Fr h₀ env.locals h (fun y => if y = x then u y else if (["due"] : List Str).contains y then u y else m₀ y) → News h₀ env.locals h led → Q .next { s with heap := h, toks := tk }) :
    wpAny (model prog w) A (pyIter (.ref l)) (fun it s₂ => LoopAtV prog w A h₀ env x body Q E it s₂) E s := by
  refine inner_loop hh hl hia F N ?_ done
  intro pre n t u h tk own hn _ F' N'
  refine turn pre n t u h tk own (led ++ own) (hz n hn) (fun p hp => List.mem_append_left _ hp) (fun p hp => List.mem_append_right _ hp) F' (fun p hp => ?_)
  rcases List.mem_cons.mp hp with rfl | hp
  · exact N' _ (List.mem_append_left _ h1)
  · rcases List.mem_cons.mp hp with rfl | hp
    · exact N' _ (List.mem_append_left _ h2)
    · exact N' _ hp
theorem stepK_no {z : Str} (h : stepK.contains z = false) : z ≠ "width" ∧ z ≠ "name" ∧ z ≠ "flags" ∧ z ≠ "asked" ∧ z ≠ "x" ∧ z ≠ "due" := by
  refine ⟨?_, ?_, ?_, ?_, ?_, ?_⟩ <;> (rintro rfl; exact absurd h (by decide))
theorem due_no {z : Str} (h : (["due"] : List Str).contains z = false) : z ≠ "due" := by rintro rfl; exact absurd h (by decide)
theorem no_due {z : Str} (h : z ≠ "due") : (["due"] : List Str).contains z = false := by simpa using h
theorem inner_end {led : List (Addr × Obj)} {m₀ m' : Str → Option Value} {pre : List Int} {own news' : List (Addr × Obj)} {s₁ : Shared} {L : Addr} {h' : Heap} {tk : Nat}
    (F : Fr h₀ L h' m') (N : News h₀ L h' news') (hn : ∀ p ∈ led, p ∈ news') (ho : ∀ p ∈ own, p ∈ news') (hm : ∀ z, z ≠ x → (["due"] : List Str).contains z = false → m' z = m₀ z) :
    InvEndN h₀ L (EndX (x := x) led m₀ pre) own (led.map (·.1)) s₁ { s₁ with heap := h', toks := tk } :=
  kst_end () F N hn ho rfl trivial (fun _ hp => nomatch hp) (fun z hz _ hs => hm z hz hs) trivial
end
end Mine
end
section
open PySem PySem.W PyProof.Rows PySem.Calls
namespace Mine
local macro_rules | `(tactic| k_room) => `(tactic| ktr_room)
local macro_rules | `(tactic| k_units) => `(tactic| ktr_units)
local macro_rules | `(tactic| walk_at "getAttr ref") => `(tactic| (k_here; k_dflt (refine' my_attr ?k1 ?k2 ?k3 ?_; (case k1 => k_asm); (case k2 => k_asm); (case k3 => assumption); k_whole)))
local macro_rules | `(tactic| walk_at "call ref") => `(tactic| (k_here; k_dflt (refine' ct_use (rows_ct _ _ _ _ _ _ _ _ _ _ _ ?ha ?hb) ?k1 ?k2 ?k3 ?k4 ?k5 ?k6 ?k7 ?k8 ?_; (case hb => assumption); (case ha => assumption); (case k1 => k_asm); (case k2 => k_asm); (case k3 => k_asm); (case k4 => k_asm); (case k5 => k_asm); (case k6 => first | exact rfl | assumption); (case k7 => ktr_room); (case k8 => ktr_units)); intro v9 ex9 h9 tk9 hR9 hO9 F9 N9; (obtain ⟨l9, t9, vs9, n9, n9', a9, b9, c9, d9, e9, hx9, e9'⟩ := hR9); subst e9; subst e9'; (simp only [List.cons_append, List.nil_append] at N9); (simp only [List.forall_mem_cons, List.not_mem_nil, false_implies, implies_true, and_true, LCg.Off1] at hO9); (try dsimp only); (try k_fold)))
local macro_rules | `(tactic| walk_at "call ref") => `(tactic| (k_here; k_dflt (refine' ct_use (flags_ct _ _ _ _ _ _ _ _ _ ?ha ?hb ?hc) ?k1 ?k2 ?k3 ?k4 ?k5 ?k6 ?k7 ?k8 ?_; (case hc => assumption); (case ha => assumption); (case hb => assumption); (case k1 => k_asm); (case k2 => k_asm); (case k3 => k_asm); (case k4 => k_asm); (case k5 => k_asm); (case k6 => first | exact rfl | assumption); (case k7 => ktr_room); (case k8 => ktr_units)); intro v9 ex9 h9 tk9 hR9 hO9 F9 N9; (obtain ⟨e9, e9'⟩ := hR9); subst e9; subst e9'; (simp only [List.nil_append] at N9); clear hO9; (try dsimp only); (try k_fold)))
local macro_rules | `(tactic| walk_at "call ref") => `(tactic| (k_here; k_dflt (refine' ct_use (octets_ct _ _ _ _ _ _ _ _ _ _ ?ha ?hb) ?k1 ?k2 ?k3 ?k4 ?k5 ?k6 ?k7 ?k8 ?_; (case ha => assumption); (case hb => assumption); (case k1 => k_asm); (case k2 => k_asm); (case k3 => k_asm); (case k4 => k_asm); (case k5 => k_asm); (case k6 => first | exact rfl | assumption); (case k7 => ktr_room); (case k8 => ktr_units)); intro v9 ex9 h9 tk9 hR9 hO9 F9 N9; (obtain ⟨D9, ys9, e9, hI9, e9'⟩ := hR9); subst e9; subst e9'; (simp only [List.cons_append, List.nil_append] at N9); (simp only [List.forall_mem_cons, List.not_mem_nil, false_implies, implies_true, and_true, LCg.Off1] at hO9); (try dsimp only); (try k_fold)))
local macro_rules | `(tactic| walk_at "subscriptTail") => `(tactic| (k_here; (with_reducible show wpAny _ _ (subscriptTail _ _ (Value.ref _) (Value.int _ _)) _ _ _); k_dflt (refine' item_sym ?N ?m ?a ?b ?c ?_; (case N => k_asm); (case m => k_mem); (case a => assumption); (case b => omega); (case c => assumption); k_whole)))
local macro_rules | `(tactic| walk_at "getMethod ref") => `(tactic| (k_here; (with_reducible show wpAny _ _ (getMethod (Value.ref _) (PySem.Str.ofString "py_type") _) _ _ _); k_dflt (refine' meth_attr ?F ?X ?G ?D ?_; (case F => k_asm); (case X => k_asm); (case G => assumption); (case D => assumption))))
local macro_rules | `(tactic| walk_at "getMethod ref") => `(tactic| (k_here; (with_reducible show wpAny _ _ (getMethod (Value.ref _) (PySem.Str.ofString "pack") _) _ _ _); k_dflt (refine' meth_pack ?F ?X ?P ?_; (case P => assumption); (case F => k_asm); (case X => k_asm))))
local macro_rules | `(tactic| walk_at "getMethod ref") => `(tactic| (k_here; (with_reducible show wpAny _ _ (getMethod (Value.ref _) (PySem.Str.ofString "unpack_from") _) _ _ _); k_dflt (refine' meth_unpack ?F ?X ?P ?_; (case P => assumption); (case F => k_asm); (case X => k_asm))))
local macro_rules | `(tactic| walk_at "call builtin:_struct.Struct.pack") => `(tactic| (k_here; k_dflt (refine' call_pack ?F ?X ?P ?h0 ?h1 ?_; (case P => assumption); (case F => k_asm); (case X => k_asm); (case h0 => assumption); (case h1 => assumption)); intro t9 tk9; (try dsimp only); (try k_fold)))
local macro_rules | `(tactic| walk_at "compareOp NotEq ref ref") => `(tactic| (k_here; k_dflt (refine' ne_ints_same ?k1 ?k2 ?k3 ?k4 ?ke ?k5 ?_; (case k1 => exact News.isList (by k_asm) (by k_mem)); (case k3 => exact News.isList (by k_asm) (by k_mem)); (case k2 => assumption); (case k4 => assumption); (case ke => assumption); (case k5 => ktr_units)); (try dsimp only)))
local macro_rules | `(tactic| walk_at "call type:list") => `(tactic| (k_here; (with_reducible show wpAny _ _ (call (Value.type "list") [Value.bytes _ _]) _ _ _); k_dflt (refine' list_of_bytes ?hh ?F ?N ?z ?_; (case hh => exact rfl); (case F => k_asm); (case N => k_asm); (case z => (rw [octs_size, sizeLine_eq]; omega))); intro D9 c9 h9 tk9 vs9 F9 N9 l9 hI9; (try k_lt l9); (try dsimp only); (try k_fold)))
local macro_rules | `(tactic| walk_at "call builtin:_struct.Struct.unpack_from") => `(tactic| (k_here; k_dflt (refine' call_unpack ?F ?N ?X ?P ?h0 ?h1 ?_; (case P => assumption); (case F => k_asm); (case N => k_asm); (case X => k_asm); (case h0 => assumption); (case h1 => assumption)); intro q9 t9 h9 tk9 F9 N9 l9; (try k_lt l9); (try dsimp only); (try k_fold)))

theorem fmod_gap {lo hi : Int} (h : lo < hi) : hi - lo + 1 ≠ 0 := by omega
local macro_rules | `(tactic| walk_at "eval ListComp") => `(tactic| (k_here; (with_reducible show wpAny _ _ (eval (Expr.ListComp (Expr.BinOp _ _ _ _) _ _ _) _) _ _ _); k_dflt (refine LCg.ListComp_U (F₀ := by k_asm) (by with_unfolding_all rfl) (by decide) (by rfl) (by decide) (by rfl) ?_)))
local macro_rules | `(tactic| walk_at "binaryOp Mod int int") => `(tactic| (with_reducible refine mod_int' (fmod_gap (And.left (And.right (by assumption)))) ?_))
theorem kind_of {w : World} {p : Program} {loose : List Str} {mean : ExcName → Option Value} {mg mb : Str → Option Value} {h : Heap} {k : Int} (_X : (hd.heap_39 w.params).In h) (_T : Top p loose mean mg mb h) (h0 : 0 ≤ k) (h12 : k < 12) : ∃ C wd lo hi nm, KindOk w p loose mean mg mb k C wd lo hi nm := kind_ok w p loose mean mg mb h0 h12
local macro_rules | `(tactic| walk_at "binaryOp Pow int int") => `(tactic| (with_reducible refine pow_big ?_))
local macro_rules | `(tactic| walk_at "binaryOp Mod int int") => `(tactic| (with_reducible refine mod_big ?_))
local macro_rules | `(tactic| walk_at "call ref") => `(tactic| (k_here; k_dflt (refine' ct_use (KindOk.told ?ko _) ?k1 ?k2 ?k3 ?k4 ?k5 ?k6 ?k7 ?k8 ?_; (case ko => assumption); (case k1 => k_asm); (case k2 => k_asm); (case k3 => k_asm); (case k4 => k_asm); (case k5 => k_asm); (case k6 => first | exact rfl | assumption); (case k7 => ktr_room); (case k8 => ktr_units)); intro v9 ex9 h9 tk9 hR9 hO9 F9 N9; (obtain ⟨e9, e9'⟩ := hR9); subst e9; subst e9'; (simp only [List.nil_append] at N9); clear hO9; (try dsimp only); (try k_fold)))
local macro_rules | `(tactic| walk_at "call ref") => `(tactic| (k_here; k_dflt (refine' ct_use (KindOk.valid ?ko _ _) ?k1 ?k2 ?k3 ?k4 ?k5 ?k6 ?k7 ?k8 ?_; (case ko => assumption); (case k1 => k_asm); (case k2 => k_asm); (case k3 => k_asm); (case k4 => k_asm); (case k5 => k_asm); (case k6 => first | exact rfl | assumption); (case k7 => ktr_room); (case k8 => ktr_units)); intro v9 ex9 h9 tk9 hR9 hO9 F9 N9; (obtain ⟨e9, e9'⟩ := hR9); subst e9; subst e9'; (simp only [List.nil_append] at N9); clear hO9; (try dsimp only); (try k_fold)))
local macro_rules | `(tactic| walk_at "call ref") => `(tactic| (k_here; k_dflt (refine' ct0_use (KindOk.enforced ?ko _ _ ?sz) ?k1 ?k2 ?k3 ?k4 ?k5 ?k6 ?k7 ?k8 ?_; (case ko => assumption); (case sz => assumption); (case k1 => k_asm); (case k2 => k_asm); (case k3 => k_asm); (case k4 => k_asm); (case k5 => k_asm); (case k6 => first | exact rfl | assumption); (case k7 => ktr_room); (case k8 => ktr_units)); intro v9 ex9 h9 tk9 hR9 hO9 F9 N9; (obtain ⟨e9, e9'⟩ := hR9); subst e9; subst e9'; (simp only [List.nil_append] at N9); clear hO9; (try dsimp only); (try k_fold)))
local macro_rules | `(tactic| walk_at "call ref") => `(tactic| (k_here; k_dflt (refine' ct_use (KindOk.within ?ko _ _ _ ?lo ?hi) ?k1 ?k2 ?k3 ?k4 ?k5 ?k6 ?k7 ?k8 ?_; (case ko => assumption); (case lo => assumption); (case hi => assumption); (case k1 => k_asm); (case k2 => k_asm); (case k3 => k_asm); (case k4 => k_asm); (case k5 => k_asm); (case k6 => first | exact rfl | assumption); (case k7 => ktr_room); (case k8 => ktr_units)); intro v9 ex9 h9 tk9 hR9 hO9 F9 N9; (obtain ⟨e9, e9'⟩ := hR9); subst e9; subst e9'; (simp only [List.nil_append] at N9); clear hO9; (try dsimp only); (try k_fold)))
local macro_rules | `(tactic| walk_at "pyIter ref") => `(tactic| (k_here; (with_reducible show wpAny _ _ (pyIter (Value.ref _)) (fun it s₂ => LoopAtV _ _ _ _ _ (PySem.Str.ofString "k") _ _ _ it s₂) _ _); k_dflt (refine' outer_loop ?hh ?hr ?F ?N (.head _) (.tail _ (.tail _ (.head _))) (.tail _ (.tail _ (.tail _ (.head _)))) ?d1 ?d2 ?turn ?done; (case hh => exact rfl); (case hr => assumption); (case F => k_asm); (case N => k_asm); (case d1 => exact ⟨_, by assumption⟩); (case d2 => exact ⟨_, by assumption⟩)); (case' turn => (intro o1 o2 pre' k' t' u' h' tk' own' h0' h12' hoff' d1' d2' F' N'; (have KO' := kind_of (by assumption) (by assumption) h0' h12'); (obtain ⟨C', wd', lo', hi', nm', KO'⟩ := KO'); (have hrow' := KO'.row); (have hfl' := KO'.fl); (have hends' := KO'.ends); (obtain ⟨v1', d1'⟩ := d1'); (obtain ⟨v2', d2'⟩ := d2'); (try dsimp only); (try k_fold))); (case' done => (intro o1 o2 u' h' tk' F' N'; (try dsimp only); (try k_fold)))))
local macro_rules | `(tactic| walk_at "pyIter ref") => `(tactic| (k_here; (with_reducible show wpAny _ _ (pyIter (Value.ref _)) (fun it s₂ => LoopAtV _ _ _ _ _ (PySem.Str.ofString "x") _ _ _ it s₂) _ _); k_dflt (refine' inner_loop2 ?xhh ?xF ?xN (.head _) ?xhi ?xd1 ?xd2 ?xh1 ?xh2 ?xhz ?xturn ?xdone; (case xhh => exact rfl); (case xF => k_asm); (case xN => k_asm); (case xhi => assumption); (case xd1 => assumption); (case xd2 => assumption); (case xhz => exact asked_sz (by assumption)); (case xh1 => repeat (first | exact .head _ | apply List.mem_cons_of_mem)); (case xh2 => repeat (first | exact .head _ | apply List.mem_cons_of_mem))); (case' xturn => (intro xpre' xk' xt' xu' xh' xtk' xown' xown2' xhz' xhs1' xhs2' xF' xN'; (try dsimp only); (try k_fold))); (case' xdone => (intro xu' xh' xtk' xF' xN'; (try dsimp only); (try k_fold)))))
local macro_rules | `(tactic| walk_at "InvEndN") => `(tactic| ((refine' inner_end (x := "x") ?eF ?eN ?ehn ?eho ?ehm); (case eF => assumption); (case eN => assumption); (case ehn => (intro p hp; repeat (first | exact (by assumption : ∀ p ∈ _, p ∈ _) p hp | apply List.mem_cons_of_mem))); (case eho => (intro p hp; repeat (first | exact (by assumption : ∀ p ∈ _, p ∈ _) p hp | apply List.mem_cons_of_mem))); (case ehm => (intro z hz hs; (have hd := due_no hs); (simp only [hz, hs, hd, if_false, Bool.false_eq_true])))))
local macro_rules | `(tactic| walk_at "InvEndN") => `(tactic| ((refine' outer_end (x := "k") ?zF ?zN ?zhD ?zh1 ?zh2 ?zd1 ?zd2 ?zho ?zhm); (case zF => assumption); (case zN => assumption); (case zhD => repeat (first | exact .head _ | apply List.mem_cons_of_mem)); (case zh1 => repeat (first | exact .head _ | apply List.mem_cons_of_mem)); (case zh2 => repeat (first | exact .head _ | apply List.mem_cons_of_mem)); (case zd1 => exact ⟨_, by assumption⟩); (case zd2 => exact ⟨_, by assumption⟩); (case zho => (intro p hp; repeat (first | exact hp | apply List.mem_cons_of_mem))); (case zhm => (intro z hz hs; (obtain ⟨n1, n2, n3, n4, n5, n6⟩ := stepK_no hs); (have n7 := no_due n6); (simp only [hz, hs, n1, n2, n3, n4, n5, n6, n7, if_false, Bool.false_eq_true])))))

set_option maxHeartbeats 8000000 in
theorem law_ok : PySem.Challenge.rw_eg5009_01.Holds := by
  refine hd ?_
  k_go0
  (all_goals try k_fold)
  k_steps
end Mine
end
theorem PySem.Challenge.cw_eg5009_01_holds : PySem.Challenge.rw_eg5009_01.Holds := by
  exact Mine.law_ok
