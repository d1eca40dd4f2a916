import PyProof.Rows.All
import Wide.All
import OpenK.AllK
import Wide.FinOn
import PySem.Challenge.RW_wo0004_01
open PySem PySem.W PyProof.Rows PySem.Spec PySem.Calls
set_option Elab.async false
set_option maxRecDepth 100000
set_option compiler.extract_closed false
namespace Mine
/-- the text's i-th statement -/
noncomputable def cellAt (i : Nat) : Stmt := PySem.Challenge.rw_wo0004_01.row.toRowW.prog.main.body.getD i (.Pass default)
/-- the text's view: the statements that bind what the law reaches, each written out (open_top would lay the same) -/
noncomputable def view : Program := by
  refine (fun (a b c d e f g h i j k l : Stmt) (_ : (a, b, c, d, e, f) = (cellAt 3, cellAt 4, cellAt 6, cellAt 7, cellAt 9, cellAt 10)) (_ : (g, h, i, j, k, l) = (cellAt 11, cellAt 12, cellAt 13, cellAt 14, cellAt 15, cellAt 16)) => ({ PySem.Challenge.rw_wo0004_01.row.toRowW.prog with main := { PySem.Challenge.rw_wo0004_01.row.toRowW.prog.main with body := [a, b, c, d, e, f, g, h, i, j, k, l] } } : Program)) ?a ?b ?c ?d ?e ?f ?g ?h ?i ?j ?k ?l ?u ?v
  case u =>
    conv =>
      rhs
      congr
      · whnf
      congr
      · whnf
      congr
      · whnf
      congr
      · whnf
      congr
      · whnf
      whnf
  case v =>
    conv =>
      rhs
      congr
      · whnf
      congr
      · whnf
      congr
      · whnf
      congr
      · whnf
      congr
      · whnf
      whnf
/-- the table C.6 as the top leaves it: one flag of it is the world's -/
def set24 (P : Params) : Obj := { cls := .type "set", data := .set #[(65529, .int 65529 202), (65530, .int 65530 204), (65531, .int 65531 206), (65532, .int 65532 208), (65533, .int 65533 210)] 6 (SetTable.mk 31 #[25, 26, 27, 28, 29] #[] 0 (!P.followText "set-order") 1 true) }
def tab0 : Obj := { cls := .none, data := .fields #[] }
def more (K : Params → Frag) : Params → Frag := fun P => (24, set24 P) :: (76, tab0) :: (83, tab0) :: K P
theorem more_as {K : Params → Frag} {as : List Addr} (e : ∀ P, as = (K P).map (·.1)) : ∀ P, 24 :: 76 :: 83 :: as = (more K P).map (·.1) := fun P => by rw [e P]; rfl
/- the head's look at the top asks for one of the world's rows alone: set-order is kept in the table and asked of nowhere (o_head would look four times) -/
noncomputable def seen (s : Shared) : Bool := xlAt view [] s && recOk (RowW.records PySem.Challenge.rw_wo0004_01.row.toRowW) s
theorem my_head {K : Params → Frag} {as : List Addr} {d : DefRec} {kwd : List (Str × Expr)} (pf : ∀ P, as = (K P).map (·.1))
    (hl : LeftO PySem.Challenge.rw_wo0004_01.row.prog view [Str.ofString "capwords", Str.ofString "c6_set", Str.ofString "_Accumulator"] seen (kHook (more K) (24 :: 76 :: 83 :: as) (more_as pf)).obs (kHook (more K) (24 :: 76 :: 83 :: as) (more_as pf)).val 2226)
    (h1 : defOf view PySem.Challenge.rw_wo0004_01.row.name = some (d, kwd)) (h2 : PySem.Challenge.rw_wo0004_01.row.prog.theDef PySem.Challenge.rw_wo0004_01.row.name = some (d.params, d.body, d.scope)) (h3 : kwWritten? d.params.kwonlyargs d.params.kw_defaults = some kwd)
    (said : PySem.Challenge.rw_wo0004_01.row.wellSaid = true) (hw : PySem.Challenge.rw_wo0004_01.row.promised)
    (hc : WalkO view [Str.ofString "capwords", Str.ofString "c6_set", Str.ofString "_Accumulator"] (XL view []) (kHook (more K) (24 :: 76 :: 83 :: as) (more_as pf)).says PySem.Challenge.rw_wo0004_01.row.toRowW d kwd fun f vs => call f vs) : PySem.Challenge.rw_wo0004_01.row.Holds :=
  holds_open hl (Hook.of _) (Hook.keeps _) (fun s e => xl_of s (Bool.and_eq_true_iff.mp e).1) XL.keeps h1 h2 h3 (fun _ e => recFacts_of (Bool.and_eq_true_iff.mp e).2) (by rfl) said (by decide +kernel) ⟨rfl, rfl, rfl, rfl, rfl, by decide +kernel⟩ hw hc
theorem rules_00_1 : True := by
  (k_with "x_look" => (exact byRow2 "special-get-raises" (by intro w; kernel_rfl) (by intro w; kernel_rfl)))
  trivial
local macro_rules | `(tactic| o_head ($f:term $k:term $as:term $pf:term)) => `(tactic| (refine my_head (K := $k) (as := $as) $pf ?hl (by rfl) (by rfl) (by rfl) (by assumption) ?hw ?hc; (case hl => k_extra "x_look")))
set_option maxHeartbeats 0 in
open_top hd for PySem.Challenge.rw_wo0004_01
theorem fill_up : (PySem.Challenge.rw_wo0004_01 = PySem.Challenge.rw_wo0004_01) ∧ (hd.heap_39 = hd.heap_39) := by k_fill; w_top off; exact ⟨rfl, rfl⟩
/-- no generator that is not bare comes in -/
def Bare (a b : Array GenState) : Prop := AllBare a → AllBare b
theorem Bare.refl (a : Array GenState) : Bare a a := id
theorem Bare.trans {a b c : Array GenState} (h1 : Bare a b) (h2 : Bare b c) : Bare a c := fun x => h2 (h1 x)
/-- a def's contract: from a ledger, an answer and a new ledger -/
def Spec (r : Nat) (w : World) (f : Addr) (vs : List Value) (news : List (Addr × Obj)) (R : Value → List (Addr × Obj) → Prop) : Prop :=
  ∀ (p : PySem.Program) (loose : List Str) (mean : ExcName → Option Value) (mg mb : Str → Option Value) (dp un : Nat) (gd : Option (List Code)) (cn : Str) (cs : Scope) (L a : Addr) (ccd : Value) (cl : List (Str × Addr)) (outer : List Env)
   (A₀ : Around) (base h₀ : Heap) (m : Str → Option Value) (s : Shared) (Q E : Value → Shared → Prop),
   Below A₀ base outer h₀ → Fr h₀ L s.heap m → (hd.heap_39 w.params).In h₀ → News h₀ L s.heap news → Top p loose mean mg mb h₀ → h₀.get? 24 = some (set24 w.params) → cs.kind = .function → dp + r < recursionLimit → un + 10 * r < cLine →
   (∀ v news' h' tk' gs', Fr h₀ L h' m → News h₀ L h' news' → R v news' → (_ : Bare s.gens gs' := by repeat (first | exact Bare.refl _ | refine Bare.trans ?_ (by assumption))) → Q v { s with heap := h', toks := tk', gens := gs' }) →
   wpAny (model Challenge.rw_wo0004_01.row.prog w) (ktrTop dp un gd cn cs L a ccd cl outer) (call (.ref f) vs) Q E s

/-- a contract, used at a call -/
theorem Spec.use {r : Nat} {w : World} {f : Addr} {vs : List Value} {news : List (Addr × Obj)} {R : Value → List (Addr × Obj) → Prop} (S : Spec r w f vs news R)
   {p : PySem.Program} {loose : List Str} {mean : ExcName → Option Value} {mg mb : Str → Option Value} {dp un : Nat} {gd : Option (List Code)} {cn : Str} {cs : Scope} {L a : Addr} {ccd : Value} {cl : List (Str × Addr)} {outer : List Env}
   {A₀ : Around} {base h₀ : Heap} {m : Str → Option Value} {s : Shared} {Q E : Value → Shared → Prop}
   (B : Below A₀ base outer h₀) (F : Fr h₀ L s.heap m) (X : (hd.heap_39 w.params).In h₀) (N : News h₀ L s.heap news) (T : Top p loose mean mg mb h₀) (X24 : h₀.get? 24 = some (set24 w.params)) (hk : cs.kind = .function) (hdp : dp + r < recursionLimit) (hun : un + 10 * r < cLine)
   (ret : ∀ v news' h' tk' gs', Bare s.gens gs' → Fr h₀ L h' m → News h₀ L h' news' → R v news' → Q v { s with heap := h', toks := tk', gens := gs' }) :
   wpAny (model Challenge.rw_wo0004_01.row.prog w) (ktrTop dp un gd cn cs L a ccd cl outer) (call (.ref f) vs) Q E s :=
  S p loose mean mg mb dp un gd cn cs L a ccd cl outer A₀ base h₀ m s Q E B F X N T X24 hk hdp hun fun v n h t g F N R B => ret v n h t g B F N R

theorem c6_obj (w : World) : (set24 w.params).SetObjOf (intKind Challenge.rw_wo0004_01.row.prog w) (fun k => decide (65529 ≤ k ∧ k ≤ 65533)) 5 := by
  unfold set24
  refine ⟨⟨rfl, rfl, rfl⟩, _, _, _, rfl, ?_, ?_, rfl, ?_⟩
  · intro e he
    simp only [List.mem_cons, List.not_mem_nil, or_false] at he
    rcases he with rfl | rfl | rfl | rfl | rfl <;> refine ⟨⟨_, intKind_is _ _ _ _, ?_⟩, rfl⟩ <;> simp [intKind] <;> decide +kernel
  · intro k
    simp only [List.mem_cons, List.not_mem_nil, or_false, exists_eq_or_imp, exists_eq_left, decide_eq_true_eq]
    constructor
    · intro hk
      have : k = 65529 ∨ k = 65530 ∨ k = 65531 ∨ k = 65532 ∨ k = 65533 := by omega
      rcases this with rfl | rfl | rfl | rfl | rfl <;> simp [intKind_is]
    · intro hk
      rcases hk with hk | hk | hk | hk | hk <;> (have := (intKind Challenge.rw_wo0004_01.row.prog w).inj _ _ _ hk (intKind_is _ _ _ _); omega)
  · rfl

set_option maxHeartbeats 0 in
theorem c6_spec {w : World} {news : List (Addr × Obj)} {c : Nat} {t : Tok} (hc : c < 0x110000) :
   Spec 3 w 34 [.str ⟨#[c]⟩ t] news (fun v news' => v = .bool (decide (65529 ≤ c ∧ c ≤ 65533)) ∧ news' = news) := by
  intro p loose mean mg mb dp un gd cn cs L a ccd cl outer A₀ base h₀ m s Q E B F X N T X24 hk hdp hun ret
  refine wpAny_call ?_
  k_dflt cell_enter
  have h24 := Fr.keep ‹Fr h₀ L _ m› _ _ X24
  have hS := c6_obj w
  k_steps
  all_goals (refine ret _ _ _ _ _ (by k_asm) (by k_asm) ⟨?_, rfl⟩)
  congr 1
  exact decide_eq_decide.mpr (by omega)

/-! the ledger, one object changed -/
def updL (x : Addr) (o : Obj) (news : List (Addr × Obj)) : List (Addr × Obj) := news.map fun p => if p.1 = x then (x, o) else p
theorem mem_updL_self {x : Addr} {o o₀ : Obj} {news : List (Addr × Obj)} (h : (x, o₀) ∈ news) : (x, o) ∈ updL x o news :=
  List.mem_map.mpr ⟨_, h, by simp⟩
theorem mem_updL_ne {x y : Addr} {o oy : Obj} {news : List (Addr × Obj)} (h : (y, oy) ∈ news) (hne : y ≠ x) : (y, oy) ∈ updL x o news :=
  List.mem_map.mpr ⟨_, h, by simp [hne]⟩
theorem memL_updL_self {x : Addr} {o o₀ : Obj} {news : List (Addr × Obj)} (h : List.Mem (x, o₀) news) : List.Mem (x, o) (updL x o news) := mem_updL_self h
theorem memL_updL_ne {x y : Addr} {o oy : Obj} {news : List (Addr × Obj)} (h : List.Mem (y, oy) news) (hne : y ≠ x) : List.Mem (y, oy) (updL x o news) := mem_updL_ne h hne
theorem updL_sub {x : Addr} {o : Obj} {A B : List (Addr × Obj)} (h : ∀ p ∈ A, p ∈ B) : ∀ p ∈ updL x o A, p ∈ updL x o B := fun p hp => by
  obtain ⟨q, hq, rfl⟩ := List.mem_map.mp hp
  exact List.mem_map.mpr ⟨q, h q hq, rfl⟩
theorem news_updL {h₀ h h' : Heap} {L x : Addr} {o o₀ : Obj} {news : List (Addr × Obj)} (N : News h₀ L h news) (hx : (x, o₀) ∈ news) (hs : Heap.SameBut x h h') (ho : h'.get? x = some o) : News h₀ L h' (updL x o news) := by
  intro p hp
  obtain ⟨q, hq, rfl⟩ := List.mem_map.mp hp
  by_cases e : q.1 = x
  · simp only [e, if_true]; exact ⟨ho, (N _ hx).2⟩
  · simp only [e, if_false]; exact ⟨(hs.2 _ e).trans (N _ hq).1, (N _ hq).2⟩

/-! an _Accumulator -/
abbrev accO (dx : Addr) (items : Array Value) (n : Nat) : Obj := { cls := .ref 114, dict := some dx, data := .seq items n }
abbrev sizeO (hh : Int) (tk : Tok) (k : Int) (t : Tok) : Obj := dictOf [⟨hh, .str (Str.ofString "_initial_size") tk, .int k t⟩] 1
theorem acc_inst {h₀ h : Heap} {L x dx : Addr} {news : List (Addr × Obj)} {od : Obj} {items : Array Value} {n : Nat} (N : News h₀ L h news) (h1 : (x, accO dx items n) ∈ news) (h2 : (dx, od) ∈ news) :
    InstAt h x (accO dx items n) 114 (some od) := ⟨(N _ h1).1, rfl, rfl, (N _ h2).1⟩

section
variable {prog : Program} {w : World} {A : Around} {E : Value → Shared → Prop} {s : Shared} {K : Frag} {x C : Addr} {ox : Obj} {od : Option Obj} {name : Str} {pl : Sem Bool}
/-- a method of a built-in base, met through an object of an own class -/
theorem method_desc {i : Value} {tf : String} {Q : Value × List Value → Shared → Prop} (X : K.In s.heap) (I : InstAt s.heap x ox C od) (hga : findIn K (.ref C) "__getattribute__" = some (some (.builtin "list.__getattribute__"))) (hk : findIn K (.ref C) "__getattr__" = some none)
    (hf : findIn K (.ref C) name = some (some i)) (ht : typeIn K i = some (.type tf)) (htf : tf = "function" ∨ tf = "method_descriptor") (hs : shadowIn od name = some false) (h : Q (i, [.ref x]) s) :
    wpAny (model prog w) A (getMethod (.ref x) name pl) Q E s := by
  have hcan := canon_list_getattribute
  unfold getMethod specialOf
  refine wpAny_bind (wpAny_bind (I.type.here ((looks_findIn X hga).here ?_)))
  dsimp only
  rw [hcan, if_neg (by decide)]
  refine wpAny_bind (wpAny_bind (I.type.here ((looks_findIn X hk).here ?_)))
  refine wpAny_bind (wpAny_bind (I.type.here ((looks_findIn X hf).here (wpAny_bind ((looks_typeIn X ht).here ?_)))))
  rw [if_neg (by rcases htf with rfl | rfl <;> decide +kernel)]
  refine wpAny_bind (wpAny_loadPart I.at_ ?_)
  have hd := I.dict
  cases e : ox.dict with
  | none => exact wpAny_bind (wpAny_rule (wpAny_pure h))
  | some dx =>
    cases od with
    | none => rw [e] at hd; exact hd.elim
    | some o =>
      rw [e] at hd
      obtain ⟨r, a, b⟩ := Option.map_eq_some_iff.mp hs
      refine wpAny_bind (wpAny_bind (wpAny_loadPart hd ?_))
      rw [nsLook_of a]
      refine wpAny_pure ?_
      rw [b]
      exact wpAny_bind (wpAny_rule (wpAny_pure h))

theorem check_meth {M : Model} {A : Around} {E : Value → Shared → Prop} {s : Shared} {i owner n : String} {self : Value} {rest : List Value} {kw : List (Str × Value)} {Q : Unit → Shared → Prop}
    (hk : builtinKind i = some .method) (hs : splitId i = some (owner, n)) (hi : Looks M s.heap (isInstance self (.type owner)) true) (ha : argsOk i ⟨self :: rest, kw⟩) (q : Q () s) :
    wpAny M A (checkBuiltinCall i ⟨self :: rest, kw⟩) Q E s := by
  simp only [checkBuiltinCall, hk, hs]
  refine wpAny_bind (hi.here ?_)
  simp only [Bool.not_true, Bool.false_eq_true, if_false]
  cases hsig : Manifest.signature? i with
  | none => exact wpAny_pure q
  | some sig =>
    simp only [argsOk, hsig] at ha
    have h2 : Bind.checkArgs i sig ⟨self :: rest, kw⟩ = pure () := ha
    show wpAny M A (Bind.checkArgs i sig ⟨self :: rest, kw⟩) Q E s
    rw [h2]; exact wpAny_pure q

/-- a built-in method of the base on an object of an own class -/
theorem acc_meth {i owner n : String} {b : Builtin} {rest : List Value} {Q : Value → Shared → Prop} (X : K.In s.heap) (I : InstAt s.heap x ox C od) (hm : mroIn K C (.type owner) = some true)
    (hk : builtinKind i = some .method) (hsp : splitId i = some (owner, n)) (ha : argsOk i ⟨.ref x :: rest, []⟩) (hb : entryFor table i = some b) (hq : plainId i = true)
    (hc : wpAny (model prog w) A.in1 (b ⟨.ref x :: rest, []⟩) (fun fin s' => ∃ v, fin = .done (.ret v) ∧ Q v s') E s) :
    wpAny (model prog w) A (call (.builtin i) (.ref x :: rest)) Q E s := by
  refine wpAny_call (codeAny_call_builtin hq hb (check_meth hk hsp (I.type.andThen (looks_mroIn X hm)) ha (wpAny_mono hc (fun fin s' h' => ?_) fun _ _ h' => h')))
  obtain ⟨v, rfl, hv⟩ := h'; exact hv
/-- a slot of the base on an object of an own class -/
theorem acc_slot {i owner n : String} {b : Builtin} {rest : List Value} {Q : Value → Shared → Prop} (X : K.In s.heap) (I : InstAt s.heap x ox C od) (hm : mroIn K C (.type owner) = some true)
    (hk : builtinKind i = some .slot) (hsp : splitId i = some (owner, n)) (ha : argsOk i ⟨.ref x :: rest, []⟩) (hb : entryFor table i = some b) (hq : plainId i = true)
    (hc : wpAny (model prog w) A.in1 (b ⟨.ref x :: rest, []⟩) (fun fin s' => ∃ v, fin = .done (.ret v) ∧ Q v s') E s) :
    wpAny (model prog w) A (call (.builtin i) (.ref x :: rest)) Q E s := by
  refine wpAny_call (codeAny_call_builtin hq hb (check_slot hk hsp (I.type.andThen (looks_mroIn X hm)) ha (wpAny_mono hc (fun fin s' h' => ?_) fun _ _ h' => h')))
  obtain ⟨v, rfl, hv⟩ := h'; exact hv

set_option maxHeartbeats 400000 in
theorem acc_getattr {expr : Bool} {v : Value} {Q : Value → Shared → Prop} (X : K.In s.heap) (I : InstAt s.heap x ox C od) (hga : findIn K (.ref C) "__getattribute__" = some (some (.builtin "list.__getattribute__"))) (hk : findIn K (.ref C) "__getattr__" = some none)
    (hm : mroIn K C (.type "list") = some true) (hf : findObj K C od name = some (.value v)) (hh : handedIn v = true) (h : Q v { s with toks := s.toks + 1 }) :
    wpAny (model prog w) A (getAttr (.ref x) name expr) Q E s := by
  obtain ⟨hh', g, d, t, os⟩ := s
  have L0 := I.type (M := model prog w)
  unfold getAttr getAttrBy
  refine wpAny_bind (wpAny_mkText (wpAny_holding (wpAny_bind (L0.at (wpAny_bind ((looks_findIn X hga).at ?_))))))
  dsimp only
  rw [show (onTheHeap (.ref C) && Value.builtin "list.__getattribute__" == Value.builtin "object.__getattribute__") = false from by rw [show (Value.builtin "list.__getattribute__" == Value.builtin "object.__getattribute__") = false from by decide +kernel, Bool.and_false], if_neg (by decide)]
  unfold getAttrByItsOwn
  refine wpAny_bind ((looks_hook (mc := .ref C) X (by exact hk)).at (wpAny_bind (wpAny_attempt (wpAny_holding ?_))))
  unfold callGetattribute
  rw [show (expr && onTheHeap (Value.builtin "list.__getattribute__")) = false from Bool.and_false _, if_neg (by decide)]
  unfold boundAndCalled
  rw [PySem.F.slot_list_getattribute.bind]
  refine wpAny_bind (wpAny_pure ?_)
  show wpAny _ _ (call (.builtin "list.__getattribute__") [.ref x, .str name t]) _ _ _
  refine acc_slot (s := ⟨hh', g, d, t + 1, os⟩) (owner := "list") (n := "__getattribute__") X I hm (by decide +kernel) (by decide +kernel) (PySem.F.args_list_getattribute_2 _ _) am_entry_list_getattribute PySem.F.slot_list_getattribute.plain ?_
  unfold Builtin.«object.__getattribute__»
  refine wpAny_bind (wpAny_pure (wpAny_bind (wpAny_pure (wpAny_bind (L0.at (wpAny_bind ((looks_find (M := model prog w) X I hf).at ?_)))))))
  refine wpAny_pure ⟨_, rfl, ?_⟩
  show wpAny _ _ (handedOut v) _ _ _
  rw [handedOut_of hh]
  exact wpAny_pure h

theorem mapSeq_acc (f : Array Value → Array Value) (dx : Addr) (items : Array Value) (n : Nat) : Obj.mapSeq f (accO dx items n) = accO dx (f items) (if (f items).size == items.size then n else n + 1) := rfl

variable {h₀ : Heap} {L dx : Addr} {m : Str → Option Value} {news : List (Addr × Obj)} {items : Array Value} {n : Nat} {osz : Obj}
theorem acc_append {v : Value} {Q : Value → Shared → Prop} (F : Fr h₀ L s.heap m) (X : (hd.heap_39 w.params).In h₀) (N : News h₀ L s.heap news) (hx : (x, accO dx items n) ∈ news) (hdx : (dx, osz) ∈ news) (hsz : items.size ≤ 1000)
    (h : ∀ h', Fr h₀ L h' m → News h₀ L h' (updL x (accO dx (items.push v) (n + 1)) news) → Q .none { s with heap := h' }) :
    wpAny (model prog w) A (call (.builtin "list.append") [.ref x, v]) Q E s := by
  refine acc_meth (owner := "list") (n := "append") (X.keeps F.keep) (acc_inst N hx hdx) (by k_is) (by decide +kernel) (by decide +kernel) (PySem.F.args_list_append_2 _ _) (PySem.F.entry_list_append) (by decide +kernel) ?_
  show wpAny _ _ (updateSeq x (·.push v) >>= fun _ => ret .none) _ _ s
  have z := N _ hx
  refine wpAny_bind ?_
  refine wpAny_updateSeq z.1 rfl (wpAny_pure ⟨.none, rfl, h _ (F.change (Heap.SameBut.update ..) z.2.1 z.2.2) (news_updL N hx (Heap.SameBut.update ..) ?_)⟩) (by rw [sizeLine_eq]; omega) (by rw [sizeLine_eq]; simp; omega)
  rw [Heap.get?_update_self _ z.1 (by rfl)]
  rw [mapSeq_acc]
  simp
end

theorem Lx.lia_on : True := trivial
local macro_rules | `(tactic| walk_at $s:str) => `(tactic| k_extra $s)
local macro_rules | `(tactic| omega) => `(tactic| k_extra "x_om")
local macro_rules | `(tactic| k_mem) => `(tactic| k_extra "x_mem")
local macro_rules | `(tactic| k_inst) => `(tactic| k_extra "x_inst")
local macro_rules | `(tactic| k_room) => `(tactic| k_extra "x_room")
local macro_rules | `(tactic| k_ne) => `(tactic| k_extra "x_ne")
local macro_rules | `(tactic| k_updF) => `(tactic| k_extra "x_updF")
theorem rules_01_1 : True := by
  (k_with "x_om" => (first | (have := lia_on; clear this; lia) | omega (splitDisjunctions := true)))
  (k_with "x_mem" => (assumption))
  (k_with "x_inst" => (exact acc_inst (by k_asm) (by k_mem) (by k_mem)))
  (k_with "getMethod ref" => ((k_here; k_dflt (refine' method_desc (Frag.In.keeps ?z0k1 (Fr.keep ?z0k2)) ?z0k3 ?z0k4 ?z0k5 ?z0k6 ?z0k7 ?z0k9 ?z0k8 ?_; (case z0k1 => k_asm); (case z0k2 => k_asm); (case z0k3 => exact acc_inst (by k_asm) (by k_mem) (by k_mem)); (case z0k4 => k_is); (case z0k5 => k_is); (case z0k6 => k_is); (case z0k7 => k_is); (case z0k9 => first | exact .inl rfl | exact .inr rfl); (case z0k8 => first | rfl | assumption); k_whole))))
  (k_with "call builtin:list.append" => ((k_here; (with_reducible show wpAny _ _ (call (Value.builtin _) [Value.ref _, _]) _ _ _); k_dflt (refine' acc_append ?z0k1 ?z0k2 ?z0k3 ?z0k4 ?z0k5 ?z0k6 ?_; (case z0k1 => k_asm); (case z0k2 => k_asm); (case z0k3 => k_asm); (case z0k4 => k_mem); (case z0k5 => k_mem); (case z0k6 => assumption); k_whole); intro _ _ _; (try k_sweep))))
  trivial
/-! super() upon a method of the built-in base -/
theorem wd_get : typeLookup (.type "wrapper_descriptor") "__get__" = pure (some (.builtin "wrapper_descriptor.__get__")) := by rw [typeLookup_type, builtinLookup_eq_fast]; kernel_rfl
theorem md_get : typeLookup (.type "method_descriptor") "__get__" = pure (some (.builtin "method_descriptor.__get__")) := by rw [typeLookup_type, builtinLookup_eq_fast]; kernel_rfl
theorem wd_slot : Slot "wrapper_descriptor" "__get__" "wrapper_descriptor.__get__" := .of (owner := "wrapper_descriptor") (n := "__get__") (by rw [typeLookup_type, builtinLookup_eq_fast]; kernel_rfl) (by decide +kernel) (by decide +kernel) (by decide +kernel)
    (by first | exact .inl (by decide +kernel) | exact .inr (by decide +kernel)) (by rw [isSubtype_type]; kernel_rfl)
theorem md_slot : Slot "method_descriptor" "__get__" "method_descriptor.__get__" := .of (owner := "method_descriptor") (n := "__get__") (by rw [typeLookup_type, builtinLookup_eq_fast]; kernel_rfl) (by decide +kernel) (by decide +kernel) (by decide +kernel)
    (by first | exact .inl (by decide +kernel) | exact .inr (by decide +kernel)) (by rw [isSubtype_type]; kernel_rfl)
theorem wd_entry : entryFor table "wrapper_descriptor.__get__" = some Builtin.«wrapper_descriptor.__get__» := entryFor_of_tree (by kernel_rfl)
theorem md_entry : entryFor table "method_descriptor.__get__" = some Builtin.«method_descriptor.__get__» := entryFor_of_tree (by kernel_rfl)
theorem wd_args (a b c : Value) : argsOk "wrapper_descriptor.__get__" ⟨[a, b, c], []⟩ := by unfold argsOk; kernel_rfl
theorem md_args (a b c : Value) : argsOk "method_descriptor.__get__" ⟨[a, b, c], []⟩ := by unfold argsOk; kernel_rfl
abbrev boundO (ty i : String) (x : Addr) : Obj := { cls := .type ty, data := .fields #[.builtin i, .ref x] }

section
variable {prog : Program} {w : World} {A : Around} {E : Value → Shared → Prop} {h : Heap} {g : Array GenState} {d : Drawn} {t : Nat} {os : OsState} {x so : Addr} {ox : Obj} {odx : Option Obj} {i n : String}

theorem wd_run_len {Q : Value → Shared → Prop} (X : (hd.heap_39 w.params).In h) (I : InstAt h x ox 114 odx)
    (hq : Q (.ref h.objs.size) ⟨h.push (boundO "method-wrapper" "list.__len__" x), g, d, t, os⟩) :
    wpAny (model prog w) A (call (.builtin "wrapper_descriptor.__get__") [.builtin "list.__len__", .ref x, .ref 114]) Q E ⟨h, g, d, t, os⟩ := by
  refine wpAny_call_entry wd_slot (show Shared.TypeIs _ (.builtin "list.__len__") "wrapper_descriptor" from by show builtinType _ = _; rw [builtinType_eq_fast]; kernel_rfl) wd_entry ?_ (wd_args _ _ _)
  unfold Builtin.«wrapper_descriptor.__get__»
  refine wpAny_bind (wpAny_pure (a := (Value.builtin "list.__len__", some (Value.ref x), some (Value.ref 114))) ?_)
  dsimp only
  refine wpAny_bind (wpAny_bind (wpAny_pure (wpAny_bind ((show Looks (model prog w) h (isInstance (.ref x) (.type "list")) true from I.type.andThen (looks_mroIn X (by k_is))).at (wpAny_pure ?_)))))
  unfold newFields
  refine wpAny_bind (wpAny_newObj_type ?_ (by size_fits))
  exact wpAny_pure ⟨_, rfl, hq⟩
theorem wd_run_init {Q : Value → Shared → Prop} (X : (hd.heap_39 w.params).In h) (I : InstAt h x ox 114 odx)
    (hq : Q (.ref h.objs.size) ⟨h.push (boundO "method-wrapper" "list.__init__" x), g, d, t, os⟩) :
    wpAny (model prog w) A (call (.builtin "wrapper_descriptor.__get__") [.builtin "list.__init__", .ref x, .ref 114]) Q E ⟨h, g, d, t, os⟩ := by
  refine wpAny_call_entry wd_slot (show Shared.TypeIs _ (.builtin "list.__init__") "wrapper_descriptor" from by show builtinType _ = _; rw [builtinType_eq_fast]; kernel_rfl) wd_entry ?_ (wd_args _ _ _)
  unfold Builtin.«wrapper_descriptor.__get__»
  refine wpAny_bind (wpAny_pure (a := (Value.builtin "list.__init__", some (Value.ref x), some (Value.ref 114))) ?_)
  dsimp only
  refine wpAny_bind (wpAny_bind (wpAny_pure (wpAny_bind ((show Looks (model prog w) h (isInstance (.ref x) (.type "list")) true from I.type.andThen (looks_mroIn X (by k_is))).at (wpAny_pure ?_)))))
  unfold newFields
  refine wpAny_bind (wpAny_newObj_type ?_ (by size_fits))
  exact wpAny_pure ⟨_, rfl, hq⟩
theorem md_run_pop {Q : Value → Shared → Prop} (X : (hd.heap_39 w.params).In h) (I : InstAt h x ox 114 odx)
    (hq : Q (.ref h.objs.size) ⟨h.push (boundO "builtin_function_or_method" "list.pop" x), g, d, t, os⟩) :
    wpAny (model prog w) A (call (.builtin "method_descriptor.__get__") [.builtin "list.pop", .ref x, .ref 114]) Q E ⟨h, g, d, t, os⟩ := by
  refine wpAny_call_entry md_slot (show Shared.TypeIs _ (.builtin "list.pop") "method_descriptor" from by show builtinType _ = _; rw [builtinType_eq_fast]; kernel_rfl) md_entry ?_ (md_args _ _ _)
  unfold Builtin.«method_descriptor.__get__»
  refine wpAny_bind (wpAny_pure (a := (Value.builtin "list.pop", some (Value.ref x), some (Value.ref 114))) ?_)
  dsimp only
  rw [if_neg (by decide +kernel)]
  refine wpAny_bind (wpAny_bind (wpAny_pure (wpAny_bind ((show Looks (model prog w) h (isInstance (.ref x) (.type "list")) true from I.type.andThen (looks_mroIn X (by k_is))).at (wpAny_pure ?_)))))
  unfold newFields
  refine wpAny_bind (wpAny_newObj_type ?_ (by size_fits))
  exact wpAny_pure ⟨_, rfl, hq⟩

theorem sup_ga {name : Str} {T gid : String} {bo : Obj} {tk : Tok} {Q : Fin → Shared → Prop} (hso : h.get? so = some (ks_superObj 114 x 114)) (X : (hd.heap_39 w.params).In h) (I : InstAt h x ox 114 odx)
    (hf : alongIn (hd.heap_39 w.params) name [.type "list", .type "object"] = some (some (.builtin i))) (hT : typeOf (.builtin i) = pure (.type T)) (hlk : typeLookup (.type T) "__get__" = pure (some (.builtin gid))) (hn : (name == ("__class__" : Str)) = false)
    (hrun : ∀ {A : Around} {E : Value → Shared → Prop} {Q : Value → Shared → Prop}, Q (.ref h.objs.size) ⟨h.push bo, g, d, t, os⟩ → wpAny (model prog w) A (call (.builtin gid) [.builtin i, .ref x, .ref 114]) Q E ⟨h, g, d, t, os⟩)
    (hq : Q (.done (.ret (.ref h.objs.size))) ⟨h.push bo, g, d, t, os⟩) :
    wpAny (model prog w) A (Builtin.«super.__getattribute__» ⟨[.ref so, .str name tk], []⟩) Q E ⟨h, g, d, t, os⟩ := by
  have hxC : x ≠ 114 := by
    obtain ⟨cd, hc⟩ : ∃ cd, clsIn (hd.heap_39 w.params) 114 = some cd := ⟨_, by k_is⟩
    exact ks_ne X I hc
  have hne : (Value.ref x == Value.ref 114) = false := by simp [hxC]
  have hdt : (ks_superObj 114 x 114).data = .fields #[.ref 114, .ref x, .ref 114] := rfl
  have f0 : (#[.ref 114, .ref x, .ref 114] : Array Value)[0]? = some (.ref 114) := rfl
  have f1 : (#[.ref 114, .ref x, .ref 114] : Array Value)[1]? = some (.ref x) := rfl
  have f2 : (#[.ref 114, .ref x, .ref 114] : Array Value)[2]? = some (.ref 114) := rfl
  have hno : Looks (model prog w) h (opaqueClassAbove (.ref 114)) none := looks_opaque X (by k_is)
  have hC : Looks (model prog w) h (mroOf (.ref 114)) [.ref 114, .type "list", .type "object"] := fun A Q E s k q => wpAny_bind ((looks_clsIn X (show clsIn (hd.heap_39 w.params) 114 = some _ by k_is)) A _ E s k (wpAny_pure q))
  unfold Builtin.«super.__getattribute__»
  repeat (first
    | (with_reducible refine wpAny_field hso hdt f0 ?_) | (with_reducible refine wpAny_field hso hdt f1 ?_) | (with_reducible refine wpAny_field hso hdt f2 ?_)
    | (with_reducible refine ks_wpAny_notOpaque hno ?_)
    | (with_reducible refine Looks.at hC ?_; rw [show ([Value.ref 114, .type "list", .type "object"].dropWhile (· != Value.ref 114)).drop 1 = [.type "list", .type "object"] from rfl])
    | (refine ks_forIn_along X (fun _ _ => rfl) rfl ?_ hf)
    | (simp only [hn, hne, hT, hlk, Bool.or_false, Bool.false_eq_true, if_false, pure_bind])
    | (refine hrun ?_)
    | wp_step
    | dsimp only)
  all_goals exact hq

theorem sup_meth {name : Str} {T gid : String} {bo : Obj} {pl : Sem Bool} {Q : Value × List Value → Shared → Prop} (hso : h.get? so = some (ks_superObj 114 x 114)) (X : (hd.heap_39 w.params).In h) (I : InstAt h x ox 114 odx)
    (hf : alongIn (hd.heap_39 w.params) name [.type "list", .type "object"] = some (some (.builtin i))) (hT : typeOf (.builtin i) = pure (.type T)) (hlk : typeLookup (.type T) "__get__" = pure (some (.builtin gid))) (hn : (name == ("__class__" : Str)) = false)
    (hrun : ∀ {A : Around} {E : Value → Shared → Prop} {Q : Value → Shared → Prop} {t : Nat}, Q (.ref h.objs.size) ⟨h.push bo, g, d, t, os⟩ → wpAny (model prog w) A (call (.builtin gid) [.builtin i, .ref x, .ref 114]) Q E ⟨h, g, d, t, os⟩)
    (hq : Q (.ref h.objs.size, []) ⟨h.push bo, g, d, t + 1, os⟩) : wpAny (model prog w) A (getMethod (.ref so) name pl) Q E ⟨h, g, d, t, os⟩ := by
  have hsl := PySem.F.ks_slot_super_ga
  have hTs : ∀ t', (⟨h, g, d, t', os⟩ : Shared).TypeIs (.ref so) "super" := fun _ => ⟨_, hso, rfl⟩
  unfold getMethod
  refine wpAny_bind (wpAny_specialOf (hTs _) hsl.lookup ?_)
  show wpAny _ _ (if (Manifest.canonical "super.__getattribute__" != "object.__getattribute__") = true then _ else _) _ _ _
  rw [if_pos PySem.F.ks_canon_super_ga]
  unfold getAttr getAttrBy
  refine wpAny_bind (wpAny_bind (wpAny_mkText (wpAny_holding (wpAny_bind (wpAny_typeOf (hTs _) (wpAny_bind (wpAny_of_eq hsl.lookup ?_)))))))
  show wpAny _ _ (getAttrByItsOwn (.ref so) (.str name t) (.type "super") (.builtin "super.__getattribute__") true false) _ _ _
  unfold getAttrByItsOwn hookBefore callGetattribute boundAndCalled
  refine wpAny_bind (wpAny_of_eq (show (if onTheHeap (.type "super") then typeLookup (.type "super") "__getattr__" else pure none) = pure none from rfl) ?_)
  refine wpAny_bind (wpAny_attempt (wpAny_holding ?_))
  show wpAny _ _ (bindSpecial (.builtin "super.__getattribute__") (.ref so) >>= _) _ _ _
  refine wpAny_bind (wpAny_of_eq (hsl.bind _) ?_)
  refine wpAny_mono (Q := fun v s' => v = .ref h.objs.size ∧ s' = ⟨h.push bo, g, d, t + 1, os⟩) (E := fun _ _ => False)
    (wpAny_call_entry hsl (hTs _) PySem.F.ks_entry_super_ga (sup_ga hso X I hf hT hlk hn hrun ⟨_, rfl, rfl, rfl⟩) (PySem.F.ks_gaArgs_super _ _)) (fun v s' hv => ?_) fun _ _ z => z.elim
  obtain ⟨rfl, rfl⟩ := hv
  exact wpAny_pure (wpAny_pure hq)
end

theorem fr_pushO {h₀ : Heap} {L : Addr} {m : Str → Option Value} {s : Shared} {news : List (Addr × Obj)} {o : Obj} (F : Fr h₀ L s.heap m) (N : News h₀ L s.heap news) (ho : o.isFreed = false := by rfl) :
    Fr h₀ L (s.heap.push o) m ∧ News h₀ L (s.heap.push o) ((s.heap.objs.size, o) :: news) ∧ ∀ p ∈ news, p.1 < s.heap.objs.size :=
  ⟨F.push o, N.push F o ho, fun p hp => Heap.lt_size (N p hp).1⟩

section
variable {prog : Program} {w : World} {A : Around} {E : Value → Shared → Prop} {s : Shared} {h₀ : Heap} {L : Addr} {m : Str → Option Value} {news : List (Addr × Obj)} {x so : Addr} {ox : Obj} {odx : Option Obj}
theorem sup_len {pl : Sem Bool} {Q : Value × List Value → Shared → Prop} (F : Fr h₀ L s.heap m) (X : (hd.heap_39 w.params).In h₀) (N : News h₀ L s.heap news) (hso : (so, ks_superObj 114 x 114) ∈ news) (I : InstAt s.heap x ox 114 odx)
    (h : ∀ q h', Fr h₀ L h' m → News h₀ L h' ((q, boundO "method-wrapper" "list.__len__" x) :: news) → (∀ p ∈ news, p.1 < q) → Q (.ref q, []) { s with heap := h', toks := s.toks + 1 }) :
    wpAny (model prog w) A (getMethod (.ref so) (Str.ofString "__len__") pl) Q E s := by
  obtain ⟨hh, g, d, t, os⟩ := s
  obtain ⟨a, b, c⟩ := fr_pushO (o := boundO "method-wrapper" "list.__len__" x) F N
  exact sup_meth (N _ hso).1 (X.keeps F.keep) I (by kernel_rfl) (by show builtinType _ = _; rw [builtinType_eq_fast]; kernel_rfl) wd_get (by decide +kernel) (fun hq => wd_run_len (X.keeps F.keep) I hq) (h _ _ a b c)
theorem sup_init {pl : Sem Bool} {Q : Value × List Value → Shared → Prop} (F : Fr h₀ L s.heap m) (X : (hd.heap_39 w.params).In h₀) (N : News h₀ L s.heap news) (hso : (so, ks_superObj 114 x 114) ∈ news) (I : InstAt s.heap x ox 114 odx)
    (h : ∀ q h', Fr h₀ L h' m → News h₀ L h' ((q, boundO "method-wrapper" "list.__init__" x) :: news) → (∀ p ∈ news, p.1 < q) → Q (.ref q, []) { s with heap := h', toks := s.toks + 1 }) :
    wpAny (model prog w) A (getMethod (.ref so) (Str.ofString "__init__") pl) Q E s := by
  obtain ⟨hh, g, d, t, os⟩ := s
  obtain ⟨a, b, c⟩ := fr_pushO (o := boundO "method-wrapper" "list.__init__" x) F N
  exact sup_meth (N _ hso).1 (X.keeps F.keep) I (by kernel_rfl) (by show builtinType _ = _; rw [builtinType_eq_fast]; kernel_rfl) wd_get (by decide +kernel) (fun hq => wd_run_init (X.keeps F.keep) I hq) (h _ _ a b c)
theorem sup_pop {pl : Sem Bool} {Q : Value × List Value → Shared → Prop} (F : Fr h₀ L s.heap m) (X : (hd.heap_39 w.params).In h₀) (N : News h₀ L s.heap news) (hso : (so, ks_superObj 114 x 114) ∈ news) (I : InstAt s.heap x ox 114 odx)
    (h : ∀ q h', Fr h₀ L h' m → News h₀ L h' ((q, boundO "builtin_function_or_method" "list.pop" x) :: news) → (∀ p ∈ news, p.1 < q) → Q (.ref q, []) { s with heap := h', toks := s.toks + 1 }) :
    wpAny (model prog w) A (getMethod (.ref so) (Str.ofString "pop") pl) Q E s := by
  obtain ⟨hh, g, d, t, os⟩ := s
  obtain ⟨a, b, c⟩ := fr_pushO (o := boundO "builtin_function_or_method" "list.pop" x) F N
  exact sup_meth (N _ hso).1 (X.keeps F.keep) I (by kernel_rfl) (by show builtinType _ = _; rw [builtinType_eq_fast]; kernel_rfl) md_get (by decide +kernel) (fun hq => md_run_pop (X.keeps F.keep) I hq) (h _ _ a b c)
/-- a built-in bound to an object, called -/
theorem bound_run {q : Addr} {ty i : String} {b : Builtin} {Q : Value → Shared → Prop} {rest : List Value} (hq : s.heap.get? q = some (boundO ty i x)) (hty : ty = "method-wrapper" ∨ ty = "builtin_function_or_method") (hb : entryFor table i = some b) (hpl : plainId i = true)
    (hchk : ∀ {A : Around} {E : Value → Shared → Prop} {Q : Unit → Shared → Prop}, Q () s → wpAny (model prog w) A (checkBoundCall i ⟨.ref x :: rest, []⟩) Q E s)
    (hc : wpAny (model prog w) A.in1 (b ⟨.ref x :: rest, []⟩) (fun fin s' => ∃ v, fin = .done (.ret v) ∧ Q v s') E s) : wpAny (model prog w) A (call (.ref q) rest) Q E s := by
  refine wpAny_call (codeAny_of_tree ?_)
  show wpAny _ _ (callAny (.ref q) _) _ _ _
  unfold callAny
  refine wpAny_bind (wpAny_load hq ?_)
  dsimp only
  rw [if_pos (by rcases hty with rfl | rfl <;> decide +kernel)]
  show wpAny _ _ (if (Value.type ty != Value.type "method") = true then _ else _) _ _ _
  rw [if_pos (by rcases hty with rfl | rfl <;> decide +kernel)]
  refine wpAny_bind (hchk (wpAny_pure ⟨plainId_quiet hpl _, ?_⟩))
  refine codeAny_builtin hb ?_
  rw [Around.under_plainId hpl]
  refine wpAny_mono hc (fun fin s' h' => ?_) fun _ _ h' => h'
  obtain ⟨v, rfl, hv⟩ := h'
  exact hv
end
/-! the bodies of list's methods on an _Accumulator -/
section
variable {prog : Program} {w : World} {A : Around} {E : Value → Shared → Prop} {s : Shared} {x dx : Addr} {items : Array Value} {n : Nat} {Q : PySem.Fin → Shared → Prop}
theorem len_body (hx : s.heap.get? x = some (accO dx items n)) (h : Q (.done (.ret (.int items.size s.toks))) { s with toks := s.toks + 1 }) : wpAny (model prog w) A (Builtin.«list.__len__» ⟨[.ref x], []⟩) Q E s := by
  unfold Builtin.«list.__len__»
  refine wpAny_bind (wpAny_pure (wpAny_bind ?_))
  refine wpAny_bind (wpAny_loadPart hx (wpAny_pure ?_))
  exact wpAny_bind (wpAny_mkInt (wpAny_pure h))
theorem upd_acc {f : Array Value → Array Value} {Q : Unit → Shared → Prop} (hx : s.heap.get? x = some (accO dx items n)) (hz : items.size ≤ 1000) (hz' : (f items).size ≤ 2000)
    (h : ∀ h', Heap.SameBut x s.heap h' → h'.get? x = some (accO dx (f items) (if (f items).size == items.size then n else n + 1)) → Q () { s with heap := h' }) : wpAny (model prog w) A (Builtin.List.listUpdate (.ref x) f) Q E s := by
  refine wpAny_updateSeq hx rfl (h _ (Heap.SameBut.update ..) ?_) (by rw [sizeLine_eq]; omega) (by rw [sizeLine_eq]; omega)
  rw [Heap.get?_update_self _ hx (by rfl)]
  rfl
theorem pop_body {ys : Array Value} {v : Value} (hx : s.heap.get? x = some (accO dx (ys.push v) n)) (hz : ys.size < 1000)
    (h : ∀ h', Heap.SameBut x s.heap h' → h'.get? x = some (accO dx ys (n + 1)) → Q (.done (.ret v)) { s with heap := h' }) : wpAny (model prog w) A (Builtin.«list.pop» ⟨[.ref x], []⟩) Q E s := by
  unfold Builtin.«list.pop»
  refine wpAny_bind (wpAny_pure (wpAny_bind (wpAny_pure ?_)))
  dsimp only
  rw [if_neg (by decide)]
  refine wpAny_bind (listItems_at hx rfl ?_)
  rw [if_neg (by simp)]
  have e1 : seqIndex? (-1) (ys.push v).size = some ys.size := by
    have : (-1 : Int) + ((ys.size + 1 : Nat) : Int) = (ys.size : Int) := by omega
    unfold seqIndex?
    rw [Array.size_push, if_pos (show (-1 : Int) < 0 by decide), this]
    simp
    omega
  have e : (seqIndex? (-1) (ys.push v).size).bind (fun k => (ys.push v)[k]?.map (k, ·)) = some (ys.size, v) := by
    rw [e1]; simp
  rw [e]
  refine wpAny_bind (upd_acc hx (by simp; omega) ?_ fun h' hs ho => wpAny_pure (h h' hs ?_))
  · simp [Array.eraseIdxIfInBounds]; omega
  · have e2 : (ys.push v).eraseIdxIfInBounds ys.size = ys := by
      rw [Array.eraseIdxIfInBounds, dif_pos (by simp)]
      apply Array.ext'
      simp [List.eraseIdx_append_of_length_le]
    rw [ho, e2]; simp
theorem init_body (hx : s.heap.get? x = some (accO dx #[] n))
    (h : ∀ h', Heap.SameBut x s.heap h' → h'.get? x = some (accO dx #[] n) → Q (.done (.ret .none)) { s with heap := h' }) : wpAny (model prog w) A (Builtin.«list.__init__» ⟨[.ref x], []⟩) Q E s := by
  unfold Builtin.«list.__init__»
  refine wpAny_bind (listItems_at hx rfl ?_)
  refine wpAny_bind (upd_acc hx (by simp) (by simp) fun h' hs ho => wpAny_bind (wpAny_pure (wpAny_pure (h h' hs ?_))))
  rw [ho]; rfl
/-- no index: a slice -/
theorem sub_slice {sl : Addr} {vl vu vs : Value} {Q : Option Int → Shared → Prop} (hs : s.heap.IsSliceOf sl vl vu vs) (h : Q none s) : wpAny (model prog w) A (Builtin.List.listSubscript? (.ref sl)) Q E s := by
  obtain ⟨os, hos, hcs, hds⟩ := hs
  unfold Builtin.List.listSubscript?
  refine wpAny_bind (wpAny_specialOf (show Shared.TypeIs s (.ref sl) "slice" from ⟨os, hos, hcs⟩) slice_no_index ?_)
  simp only [Option.isNone_none, if_true]
  exact wpAny_pure h
theorem parts_slice {sl : Addr} {vl vu : Value} {lo hi : Option Int} {Q : Value × Value × Value → Shared → Prop} (hs : s.heap.IsSliceOf sl vl vu .none) (pl : IsPart vl lo) (pu : IsPart vu hi) (h : Q (rawPart lo, rawPart hi, rawPart none) s) :
    wpAny (model prog w) A (Builtin.List.listSliceParts (.ref sl)) Q E s := by
  obtain ⟨os, hos, hcs, hds⟩ := hs
  rw [listSliceParts_eq]
  refine wpAny_bind (wpAny_field hos hds (x := .none) rfl (wpAny_bind (wpAny_listPart .none ?_)))
  rw [if_neg (by simp [rawPart, rawInt])]
  exact wpAny_bind (wpAny_field hos hds (x := vl) rfl (wpAny_bind (wpAny_listPart pl (wpAny_bind (wpAny_field hos hds (x := vu) rfl (wpAny_bind (wpAny_listPart pu (wpAny_pure h))))))))
theorem getsl_body {sl : Addr} {vl vu : Value} {lo hi : Option Int} (hx : s.heap.get? x = some (accO dx items n)) (hs : s.heap.IsSliceOf sl vl vu .none) (pl : IsPart vl lo) (pu : IsPart vu hi) (hz : items.size ≤ 1000)
    (h : Q (.done (.ret (.ref s.heap.objs.size))) { s with heap := s.heap.push { cls := .type "list", data := .seq (slicePick items lo hi none) } }) : wpAny (model prog w) A (Builtin.«list.__getitem__» ⟨[.ref x, .ref sl], []⟩) Q E s := by
  unfold Builtin.«list.__getitem__»
  refine wpAny_bind (wpAny_pure (wpAny_bind (sub_slice hs ?_)))
  obtain ⟨os, hos, hcs, hds⟩ := id hs
  show wpAny _ _ (typeOf (.ref sl) >>= _) _ _ s
  refine wpAny_bind (wpAny_typeOf (show Shared.TypeIs s (.ref sl) "slice" from ⟨os, hos, hcs⟩) ?_)
  rw [if_neg (by decide)]
  refine wpAny_bind (parts_slice hs pl pu ?_)
  refine wpAny_bind (listItems_at hx rfl ?_)
  refine wpAny_bind (wpAny_of_eq (sliceIndices_raw lo hi none items.size (by simp)) ?_)
  exact wpAny_bind (wpAny_newObj_type (wpAny_pure h) (Nat.le_trans (slicePick_size_le items lo hi none) (by rw [sizeLine_eq]; omega)))
theorem getint_body {k : Int} {t : Tok} {v : Value} (hx : s.heap.get? x = some (accO dx items n)) (h0 : 0 ≤ k) (h1 : k < 2 ^ 63) (hv : items[k.toNat]? = some v)
    (h : Q (.done (.ret v)) s) : wpAny (model prog w) A (Builtin.«list.__getitem__» ⟨[.ref x, .int k t], []⟩) Q E s := by
  unfold Builtin.«list.__getitem__»
  refine wpAny_bind (wpAny_pure (wpAny_bind (wpAny_listSubscript_int (fitsIndex_of h0 h1) ?_)))
  clear h1
  obtain ⟨j, rfl⟩ := Int.eq_ofNat_of_zero_le h0
  have hv' : items[j]? = some v := hv
  show wpAny _ _ ((seqItemAt x j >>= fun r => pure (r.map (j, ·))) >>= _) _ _ s
  refine wpAny_bind (wpAny_bind (wpAny_seqItemAt hx rfl (wpAny_pure ?_)))
  rw [hv']
  exact wpAny_pure h
theorem setsl_body {sl y : Addr} {oy : Obj} {ys : Array Value} {ny : Nat} {vl : Value} {lo : Option Int} (hx : s.heap.get? x = some (accO dx items n)) (hy : s.heap.get? y = some oy) (hyc : oy.cls = .type "list") (hyd : oy.data = .seq ys ny)
    (hs : s.heap.IsSliceOf sl vl .none .none) (pl : IsPart vl lo) (hz : items.size ≤ 1000) (hzy : ys.size ≤ 1000) (hlo : ∀ k, lo = some k → 0 ≤ k ∧ k ≤ items.size)
    (h : ∀ h' n', Heap.SameBut x s.heap h' → h'.get? x = some (accO dx (items.extract 0 (lo.getD 0).toNat ++ ys) n') → Q (.done (.ret .none)) { s with heap := h' }) : wpAny (model prog w) A (Builtin.«list.__setitem__» ⟨[.ref x, .ref sl, .ref y], []⟩) Q E s := by
  unfold Builtin.«list.__setitem__»
  refine wpAny_bind (wpAny_pure (wpAny_bind (sub_slice hs ?_)))
  obtain ⟨os, hos, hcs, hds⟩ := id hs
  show wpAny _ _ (typeOf (.ref sl) >>= _) _ _ s
  refine wpAny_bind (wpAny_typeOf (show Shared.TypeIs s (.ref sl) "slice" from ⟨os, hos, hcs⟩) ?_)
  rw [if_neg (by decide)]
  refine wpAny_bind (parts_slice hs pl .none ?_)
  have hxy : x ≠ y := by
    rintro rfl
    rw [hx] at hy
    cases hy
    cases hyc
  have hsame : Builtin.List.listSameRef (.ref x) (.ref y) = false := by simp [Builtin.List.listSameRef, hxy]
  dsimp only
  rw [if_neg (by rw [hsame]; decide)]
  refine wpAny_bind (wpAny_bind (wpAny_typeOf (show Shared.TypeIs s (.ref y) "list" from ⟨oy, hy, hyc⟩) ?_))
  rw [if_pos (by decide)]
  refine listItems_at hy hyd ?_
  refine wpAny_bind (listItems_at hx rfl ?_)
  refine wpAny_bind (wpAny_of_eq (sliceIndices_raw lo none none items.size (by simp)) ?_)
  have hb : sliceBounds lo none none items.size = (lo.getD 0, (items.size : Int), 1) := by
    cases lo with
    | none => simp [sliceBounds]
    | some k =>
      obtain ⟨h0, h1⟩ := hlo k rfl
      simp only [sliceBounds, Option.getD_none, Option.getD_some, show ¬ k < 0 by omega, if_false, show (1 : Int) > 0 by decide, if_true]
      congr 1
      omega
  rw [hb]
  dsimp only
  have hlo0 : 0 ≤ lo.getD 0 ∧ lo.getD 0 ≤ items.size := by
    cases lo with
    | none => simp
    | some k => exact hlo k rfl
  have hmax : max (lo.getD 0) (items.size : Int) = (items.size : Int) := Int.max_eq_right hlo0.2
  rw [if_pos (by decide)]
  refine wpAny_bind (wpAny_rule ?_)
  have hlong : Builtin.List.listTooLong (items.size + ys.size) = false := by
    unfold Builtin.List.listTooLong
    rw [decide_eq_false_iff_not, sizeLine_eq]
    omega
  rw [if_neg (by rw [hlong]; decide), hmax]
  have hz2 : (items.extract 0 (lo.getD 0).toNat ++ ys ++ items.extract (items.size : Int).toNat).size ≤ 2000 := by
    simp only [Array.size_append, Array.size_extract]; lia
  have he : items.extract 0 (lo.getD 0).toNat ++ ys ++ items.extract (items.size : Int).toNat = items.extract 0 (lo.getD 0).toNat ++ ys := by
    simp
  refine wpAny_bind (upd_acc hx hz hz2 fun h' hs' ho => wpAny_bind (wpAny_letGo (wpAny_pure (h h' _ hs' (by rw [← he]; exact ho)))))
end
/-! rules at the ledger: an _Accumulator -/
section
variable {prog : Program} {w : World} {A : Around} {E : Value → Shared → Prop} {s : Shared} {h₀ : Heap} {L x dx q : Addr} {m : Str → Option Value} {news : List (Addr × Obj)} {items : Array Value} {n : Nat} {osz : Obj} {K : Frag}
theorem fr_upd {o o₀ : Obj} {h' : Heap} (F : Fr h₀ L s.heap m) (N : News h₀ L s.heap news) (hx : (x, o₀) ∈ news) (hs : Heap.SameBut x s.heap h') (ho : h'.get? x = some o) : Fr h₀ L h' m ∧ News h₀ L h' (updL x o news) :=
  ⟨F.change hs (N _ hx).2.1 (N _ hx).2.2, news_updL N hx hs ho⟩

theorem acc_special {i : String} {name : Str} {args : List Value} {Q : Option Value → Shared → Prop} {od : Option Obj} {ox : Obj} {C : Addr} (X : K.In s.heap) (I : InstAt s.heap x ox C od) (hs : findIn K (.ref C) name = some (some (.builtin i)))
    (hb : bindSpecial (.builtin i) (.ref x) = pure (.builtin i, [.ref x])) (h : wpAny (model prog w) A (call (.builtin i) (.ref x :: args)) (fun v => Q (some v)) E s) : wpAny (model prog w) A (callSpecial? (.ref x) name args) Q E s := by
  unfold callSpecial? specialOf
  refine wpAny_bind (wpAny_bind (I.type.here ((looks_findIn X hs).here (wpAny_holding ?_))))
  rw [hb]
  exact wpAny_bind (wpAny_pure (wpAny_bind (wpAny_mono h (fun _ _ z => wpAny_pure z) fun _ _ z => z)))

theorem acc_getItem {v : Value} {Q : Value → Shared → Prop} (F : Fr h₀ L s.heap m) (X : (hd.heap_39 w.params).In h₀) (N : News h₀ L s.heap news) (hx : (x, accO dx items n) ∈ news) (hdx : (dx, osz) ∈ news)
    (h : wpAny (model prog w) A (call (.builtin "list.__getitem__") [.ref x, v]) Q E s) : wpAny (model prog w) A (getItem (.ref x) v) Q E s := by
  have X' := X.keeps F.keep
  have I := acc_inst N hx hdx
  unfold getItem sequenceKey
  refine wpAny_holding (wpAny_bind (wpAny_bind (I.type.here ?_)))
  refine wpAny_bind ((anyM_none X' (by show noSeq (hd.heap_39 w.params) 114 = true; k_is)).here ?_)
  rw [if_pos (show (!false) = true from rfl)]
  exact wpAny_pure (wpAny_bind (acc_special X' I (by k_is) (slot_list_getitem.bind _) (wpAny_mono h (fun _ _ z => wpAny_pure z) fun _ _ z => z)))
theorem acc_setItem {v y : Value} {Q : Unit → Shared → Prop} (F : Fr h₀ L s.heap m) (X : (hd.heap_39 w.params).In h₀) (N : News h₀ L s.heap news) (hx : (x, accO dx items n) ∈ news) (hdx : (dx, osz) ∈ news)
    (h : wpAny (model prog w) A (call (.builtin "list.__setitem__") [.ref x, v, y]) (fun _ => Q ()) E s) : wpAny (model prog w) A (setItem (.ref x) v y) Q E s := by
  have X' := X.keeps F.keep
  have I := acc_inst N hx hdx
  unfold setItem sequenceKey
  refine wpAny_holding (wpAny_bind (wpAny_bind (I.type.here ?_)))
  refine wpAny_bind ((anyM_none X' (by show noSeq (hd.heap_39 w.params) 114 = true; k_is)).here ?_)
  rw [if_pos (show (!false) = true from rfl)]
  exact wpAny_pure (wpAny_bind (acc_special X' I (by k_is) (slot_list_setitem.bind _) (wpAny_mono h (fun _ _ z => wpAny_pure z) fun _ _ z => z)))
/-- x[k] -/
theorem acc_item {value slice : PySem.Expr} {k : Int} {t : Tok} {v : Value} {ops : List Value} {Q : Value → Shared → Prop} (F : Fr h₀ L s.heap m) (X : (hd.heap_39 w.params).In h₀) (N : News h₀ L s.heap news) (hx : (x, accO dx items n) ∈ news) (hdx : (dx, osz) ∈ news)
    (h0 : 0 ≤ k) (h1 : k < 2 ^ 63) (hv : items[k.toNat]? = some v) (h : Q v s) (hs : subscripted slice false (.ref x) (.int k t) = operate ops (getItem (.ref x) (.int k t))) :
    wpAny (model prog w) A (subscriptTail value slice (.ref x) (.int k t)) Q E s := by
  have X' := X.keeps F.keep
  have I := acc_inst N hx hdx
  unfold subscriptTail getitemInPython specialOf
  refine wpAny_bind (wpAny_bind (wpAny_bind (I.type.here ((looks_findIn X' (by k_is)).here ?_))))
  refine wpAny_pure ?_
  refine wpAny_bind ?_
  rw [hs]
  refine wpAny_operating (acc_getItem F X N hx hdx ?_)
  refine acc_meth (owner := "list") (n := "__getitem__") X' I (by k_is) (by decide +kernel) (by decide +kernel) (args_list_getitem _ _) entry_list_getitem (by decide +kernel) ?_
  exact getint_body (N _ hx).1 h0 h1 hv ⟨_, rfl, wpAny_bind (wpAny_letTemporaryGo (wpAny_pure h))⟩

/-- x[a:] with the slice made -/
theorem acc_sliceTail {value slice : PySem.Expr} {sl : Addr} {vl vu : Value} {lo hi : Option Int} {ops : List Value} {Q : Value → Shared → Prop} (F : Fr h₀ L s.heap m) (X : (hd.heap_39 w.params).In h₀) (N : News h₀ L s.heap news) (hx : (x, accO dx items n) ∈ news) (hdx : (dx, osz) ∈ news)
    (hsl : s.heap.IsSliceOf sl vl vu .none) (pl : IsPart vl lo) (pu : IsPart vu hi) (hz : items.size ≤ 1000)
    (h : ∀ l h', Fr h₀ L h' m → News h₀ L h' ((l, { cls := .type "list", data := .seq (slicePick items lo hi none) }) :: news) → (∀ p ∈ news, p.1 < l) → Q (.ref l) { s with heap := h' })
    (hs : subscripted slice false (.ref x) (.ref sl) = operate ops (getItem (.ref x) (.ref sl))) :
    wpAny (model prog w) A (subscriptTail value slice (.ref x) (.ref sl)) Q E s := by
  have X' := X.keeps F.keep
  have I := acc_inst N hx hdx
  unfold subscriptTail getitemInPython specialOf
  refine wpAny_bind (wpAny_bind (wpAny_bind (I.type.here ((looks_findIn X' (by k_is)).here ?_))))
  refine wpAny_pure ?_
  refine wpAny_bind ?_
  rw [hs]
  refine wpAny_operating (acc_getItem F X N hx hdx ?_)
  refine acc_meth (owner := "list") (n := "__getitem__") X' I (by k_is) (by decide +kernel) (by decide +kernel) (args_list_getitem _ _) entry_list_getitem (by decide +kernel) ?_
  obtain ⟨a, b, c⟩ := fr_pushO (o := { cls := .type "list", data := .seq (slicePick items lo hi none) }) F N
  exact getsl_body (N _ hx).1 hsl pl pu hz ⟨_, rfl, wpAny_bind (wpAny_letTemporaryGo (wpAny_pure (h _ _ a b c)))⟩
/-- x[a:] = y with the slice made -/
theorem acc_sliceSet {sl y : Addr} {oy : Obj} {ys : Array Value} {ny : Nat} {vl : Value} {lo : Option Int} {Q : Unit → Shared → Prop} (F : Fr h₀ L s.heap m) (X : (hd.heap_39 w.params).In h₀) (N : News h₀ L s.heap news) (hx : (x, accO dx items n) ∈ news) (hdx : (dx, osz) ∈ news)
    (hy : s.heap.get? y = some oy) (hyc : oy.cls = .type "list") (hyd : oy.data = .seq ys ny)
    (hsl : s.heap.IsSliceOf sl vl .none .none) (pl : IsPart vl lo) (hz : items.size ≤ 1000) (hzy : ys.size ≤ 1000) (hlo : ∀ k, lo = some k → 0 ≤ k ∧ k ≤ items.size)
    (h : ∀ h' n', Fr h₀ L h' m → News h₀ L h' (updL x (accO dx (items.extract 0 (lo.getD 0).toNat ++ ys) n') news) → Q () { s with heap := h' }) :
    wpAny (model prog w) A (setItem (.ref x) (.ref sl) (.ref y)) Q E s := by
  have X' := X.keeps F.keep
  have I := acc_inst N hx hdx
  refine acc_setItem F X N hx hdx ?_
  refine acc_slot (owner := "list") (n := "__setitem__") X' I (by k_is) (by decide +kernel) (by decide +kernel) (args_list_setitem _ _ _) entry_list_setitem (by decide +kernel) ?_
  refine setsl_body (N _ hx).1 hy hyc hyd hsl pl hz hzy hlo fun h' n' hs ho => ?_
  obtain ⟨a, b⟩ := fr_upd F N hx hs ho
  exact ⟨_, rfl, h h' n' a b⟩
theorem bound_keep {h : Heap} {ty i : String} {M : Model} (hty : ty = "method-wrapper" ∨ ty = "builtin_function_or_method") (hq : h.get? q = some (boundO ty i x)) : ∃ k, (k = Keeper.frame ∨ k = Keeper.machine ∨ k = Keeper.boundFrame) ∧ Looks M h (keeperOf (.ref q)) k := by
  refine ⟨.machine, .inr (.inl rfl), (Looks.ld (part := none) hq).andThen ?_⟩
  rcases hty with rfl | rfl <;> exact Looks.of_pure rfl
theorem callWith_bound {ty i : String} {pos : Pos} {env : Env} {Q : Value → Shared → Prop} (N : News h₀ L s.heap news) (hq : (q, boundO ty i x) ∈ news) (hty : ty = "method-wrapper" ∨ ty = "builtin_function_or_method")
    (h : wpAny (model prog w) A (call (.ref q) []) Q E s) : wpAny (model prog w) A (callWith pos (.ref q) [] (backTo pos (starEach [] env)) []) Q E s :=
  callWith_of (P := fun h => h.get? q = some (boundO ty i x)) rfl (fun _ e => bound_keep hty e) (evalArgs_nil3 ⟨(N _ hq).1, h⟩)
theorem bound_len {Q : Value → Shared → Prop} (N : News h₀ L s.heap news) (hq : (q, boundO "method-wrapper" "list.__len__" x) ∈ news) (hx : (x, accO dx items n) ∈ news)
    (h : Q (.int items.size s.toks) { s with toks := s.toks + 1 }) : wpAny (model prog w) A (call (.ref q) []) Q E s :=
  bound_run (N _ hq).1 (.inl rfl) PySem.F.entry_list_len (by decide +kernel) (fun hQ => wpAny_of_eq (show checkBoundCall "list.__len__" ⟨[.ref x], []⟩ = pure () by kernel_rfl) hQ) (len_body (N _ hx).1 ⟨_, rfl, h⟩)
theorem bound_init {Q : Value → Shared → Prop} (F : Fr h₀ L s.heap m) (N : News h₀ L s.heap news) (hq : (q, boundO "method-wrapper" "list.__init__" x) ∈ news) (hx : (x, accO dx #[] n) ∈ news)
    (h : ∀ h', Fr h₀ L h' m → News h₀ L h' (updL x (accO dx #[] n) news) → Q .none { s with heap := h' }) : wpAny (model prog w) A (call (.ref q) []) Q E s :=
  bound_run (N _ hq).1 (.inl rfl) PySem.F.entry_list_init (by decide +kernel) (fun hQ => wpAny_of_eq (show checkBoundCall "list.__init__" ⟨[.ref x], []⟩ = pure () by kernel_rfl) hQ) (init_body (N _ hx).1 fun h' hs ho => by
    obtain ⟨a, b⟩ := fr_upd F N hx hs ho
    exact ⟨_, rfl, h h' a b⟩)
def popSig := (Manifest.signature? "list.pop").get (by decide +kernel)
theorem pop_check {Q : Unit → Shared → Prop} (X : (hd.heap_39 w.params).In s.heap) (I : InstAt s.heap x (accO dx items n) 114 (some osz)) (h : Q () s) : wpAny (model prog w) A (checkBoundCall "list.pop" ⟨[.ref x], []⟩) Q E s := by
  obtain ⟨hh, g, d, t, os⟩ := s
  have hsig : Manifest.signature? "list.pop" = some popSig := (Option.some_get _).symm
  have hk : builtinKind "list.pop" = some .method := by decide +kernel
  have L1 : Looks (model prog w) hh (isInstance (.ref x) (.type "module")) false := I.type.andThen (looks_mroIn X (by k_is))
  unfold checkBoundCall
  rw [hsig, hk]
  dsimp only
  rw [if_neg (by decide)]
  refine wpAny_bind (L1.at ?_)
  rw [if_neg (by decide +kernel)]
  refine wpAny_bind (ks_wpAny_isType_inst I.at_ (fun c e => by cases e) ?_)
  simp only [Bool.false_eq_true, if_false]
  refine wpAny_bind ((I.type (M := model prog w)).at ?_)
  refine wpAny_bind ((looks_clsIn X (show clsIn (hd.heap_39 w.params) 114 = some _ by k_is)).at ?_)
  refine wpAny_bind ((looks_typeIn X (show typeIn (hd.heap_39 w.params) (.ref 114) = some _ by k_is)).at ?_)
  rw [if_pos (by decide)]
  exact wpAny_of_eq (by kernel_rfl) h
theorem bound_pop {ys : Array Value} {v : Value} {Q : Value → Shared → Prop} (F : Fr h₀ L s.heap m) (X : (hd.heap_39 w.params).In h₀) (N : News h₀ L s.heap news) (hq : (q, boundO "builtin_function_or_method" "list.pop" x) ∈ news) (hx : (x, accO dx (ys.push v) n) ∈ news) (hdx : (dx, osz) ∈ news) (hz : ys.size < 1000)
    (h : ∀ h', Fr h₀ L h' m → News h₀ L h' (updL x (accO dx ys (n + 1)) news) → Q v { s with heap := h' }) : wpAny (model prog w) A (call (.ref q) []) Q E s :=
  bound_run (N _ hq).1 (.inr rfl) PySem.F.entry_list_pop (by decide +kernel) (fun hQ => pop_check (X.keeps F.keep) (acc_inst N hx hdx) hQ) (pop_body (N _ hx).1 hz fun h' hs ho => by
    obtain ⟨a, b⟩ := fr_upd F N hx hs ho
    exact ⟨_, rfl, h h' a b⟩)
theorem acc_slice {value slice : PySem.Expr} {vl vu : Value} {lo hi : Option Int} {ops : List Value} {Q : Value → Shared → Prop} (F : Fr h₀ L s.heap m) (X : (hd.heap_39 w.params).In h₀) (N : News h₀ L s.heap news) (hx : (x, accO dx items n) ∈ news) (hdx : (dx, osz) ∈ news)
    (pl : IsPart vl lo) (pu : IsPart vu hi) (hz : items.size ≤ 1000)
    (h : ∀ l h', Fr h₀ L h' m → News h₀ L h' ((l, { cls := .type "list", data := .seq (slicePick items lo hi none) }) :: news) → (∀ p ∈ news, p.1 < l) → Q (.ref l) { s with heap := h' })
    (hs : subscripted slice false (.ref x) (.ref s.heap.objs.size) = operate ops (getItem (.ref x) (.ref s.heap.objs.size))) :
    wpAny (model prog w) A (subscriptTail value slice (.ref x) (.ref s.heap.objs.size)) Q E { s with heap := s.heap.push { cls := .type "slice", data := .fields #[vl, vu, .none] } } :=
  acc_sliceTail (s := { s with heap := s.heap.push { cls := .type "slice", data := .fields #[vl, vu, .none] } }) (F.push _) X (N.grown fun _ _ e => Heap.get?_push_of_some _ e) hx hdx (Heap.IsSliceOf.new ..) pl pu hz h hs
theorem acc_setsl {y : Addr} {oy : Obj} {ys : Array Value} {ny : Nat} {vl : Value} {lo : Option Int} {Q : Unit → Shared → Prop} (F : Fr h₀ L s.heap m) (X : (hd.heap_39 w.params).In h₀) (N : News h₀ L s.heap news) (hx : (x, accO dx items n) ∈ news) (hdx : (dx, osz) ∈ news)
    (hy : (y, oy) ∈ news) (hyc : oy.cls = .type "list") (hyd : oy.data = .seq ys ny) (pl : IsPart vl lo) (hz : items.size ≤ 1000) (hzy : ys.size ≤ 1000) (hlo : ∀ k, lo = some k → 0 ≤ k ∧ k ≤ items.size)
    (h : ∀ h' n', Fr h₀ L h' m → News h₀ L h' (updL x (accO dx (items.extract 0 (lo.getD 0).toNat ++ ys) n') news) → Q () { s with heap := h' }) :
    wpAny (model prog w) A (setItem (.ref x) (.ref s.heap.objs.size) (.ref y)) Q E { s with heap := s.heap.push { cls := .type "slice", data := .fields #[vl, .none, .none] } } :=
  have N1 : News h₀ L (s.heap.push { cls := .type "slice", data := .fields #[vl, .none, .none] }) news := N.grown fun _ _ e => Heap.get?_push_of_some _ e
  acc_sliceSet (s := { s with heap := s.heap.push { cls := .type "slice", data := .fields #[vl, .none, .none] } }) (F.push _) X N1 hx hdx (N1 _ hy).1 hyc hyd (Heap.IsSliceOf.new ..) pl hz hzy hlo h
theorem acc_refuse (self : Value) : refuseLoop self "__setattr__" [.ref 114, .type "list", .type "object"] = pure () := by
  rw [refuseLoop_ref]; kernel_rfl
theorem acc_store {od od' : Obj} {name : Str} {v : Value} {es : List DictEntry} {k : Nat} {Q : Unit → Shared → Prop} (F : Fr h₀ L s.heap m) (X₀ : (hd.heap_39 w.params).In h₀) (N : News h₀ L s.heap news) (hx : (x, accO dx items n) ∈ news) (hdx : (dx, od) ∈ news)
    (hl : (lookIn name od).isSome = true) (ha : findIn (hd.heap_39 w.params) (.ref 114) name = some none) (e : Obj.putName name (PyData.keyHash w.params name) (.str name (s.toks + 1)) v od = od') (e' : od'.data = .dict es.toArray k) (hz : es.length ≤ 1000)
    (h : ∀ h', Fr h₀ L h' m → News h₀ L h' (updL dx od' news) → Q () { s with heap := h', toks := s.toks + 2 }) :
    wpAny (model prog w) A (setAttr (.ref x) name v) Q E s := by
  obtain ⟨hp, g, d, tq, os⟩ := s
  dsimp only at F N e h
  have I := acc_inst N hx hdx
  have X := X₀.keeps F.keep
  have SF := PySem.F.store_object
  obtain ⟨cd, hc, hmro, hhd⟩ : ∃ cd, clsIn (hd.heap_39 w.params) 114 = some cd ∧ cd.mro = [.ref 114, .type "list", .type "object"] ∧ cd.hasDict = true := ⟨_, by k_is, rfl, rfl⟩
  refine set_plain X I (by k_is) ?_
  refine codeAny_call_builtin SF.slot.plain SF.entry (@check_slot (model prog w) _ _ ⟨hp, g, d, tq + 1, os⟩ "object.__setattr__" "object" "__setattr__" (.ref x) [.str name tq, v] [] _ SF.kind SF.split (I.type.andThen (looks_mroIn X (by k_is))) (SF.args (.ref x) (.str name tq) v) ?_)
  have hm : Looks (model prog w) hp (mroOf (.ref 114)) cd.mro := (looks_clsIn X hc).andThen .now
  rw [hmro] at hm
  have L3 : Looks (model prog w) hp (Builtin.ObjectAttr.storeTaker? none) none := .now
  rw [osa_eq, refuse_eq]
  refine wpAny_bind (wpAny_bind (I.type.at (wpAny_bind (hm.at ?_))))
  rw [acc_refuse]
  refine wpAny_pure (wpAny_bind (I.type.at (wpAny_bind ((looks_findIn X ha).at (wpAny_bind (L3.at ?_))))))
  have D := N _ hdx
  have hf : (Obj.putName name (PyData.keyHash w.params name) (.str name (tq + 1)) v od).isFreed = false := by
    rw [e]; obtain ⟨_, _, dd, _⟩ := od'; cases e'; rfl
  have hs := Heap.SameBut.update hp dx (Obj.putName name (PyData.keyHash w.params name) (.str name (tq + 1)) v)
  have ho : (hp.update dx (Obj.putName name (PyData.keyHash w.params name) (.str name (tq + 1)) v)).get? dx = some od' := by
    rw [Heap.get?_update_self _ D.1 hf, e]
  obtain ⟨U1, U2⟩ := fr_upd (s := ⟨hp, g, d, tq, os⟩) F N hdx hs ho
  refine wpAny_bind (wpAny_pure (wpAny_bind (wpAny_bind (wpAny_loadPart (N _ hx).1 (wpAny_bind ((looks_clsIn X hc).at ?_))))))
  rw [hhd]
  refine wpAny_pure (a := some dx) (wpAny_bind (wpAny_pure (wpAny_bind ?_)))
  unfold nsSet
  refine wpAny_bind (wpAny_bind (wpAny_askSetting (wpAny_pure (wpAny_bind (wpAny_mkText (wpAny_bind (wpAny_loadPart D.1 ?_)))))))
  unfold lookIn at hl
  split at hl
  · rename_i es₀ n₀ q
    rw [q]
    dsimp only
    have c : (!es₀.any (·.key.isStr name) && es₀.any (·.refKey)) = false := by
      rw [← Array.any_toList, ← Array.any_toList]
      split at hl
      · rename_i en he
        rw [List.any_eq_true.mpr ⟨en, List.mem_of_find?_eq_some he, List.find?_some he⟩]; rfl
      · split at hl
        · cases hl
        · rename_i z; rw [Bool.not_eq_true] at z; rw [z, Bool.and_false]
    rw [aRefKeyMayBeTheName_at, c]
    refine wpAny_updatePart D.1 ?_
    refine wpAny_bind (wpAny_lookBehind ho (by rw [e']; exact pastItsLine_dict (by rw [List.size_toArray, sizeLine_eq]; omega)) ?_)
    exact wpAny_pure (h _ U1 U2)
  · cases hl
/-- self._initial_size = k, where it stands already -/
theorem acc_setsize {hh : Int} {tk : Tok} {k k' : Int} {t t' : Tok} {Q : Unit → Shared → Prop} (F : Fr h₀ L s.heap m) (X : (hd.heap_39 w.params).In h₀) (N : News h₀ L s.heap news) (hx : (x, accO dx items n) ∈ news) (hdx : (dx, sizeO hh tk k t) ∈ news)
    (h : ∀ h', Fr h₀ L h' m → News h₀ L h' (updL dx (sizeO hh tk k' t') news) → Q () { s with heap := h', toks := s.toks + 2 }) :
    wpAny (model prog w) A (setAttr (.ref x) (Str.ofString "_initial_size") (.int k' t')) Q E s :=
  acc_store F X N hx hdx (od' := sizeO hh tk k' t') (es := [⟨hh, .str (Str.ofString "_initial_size") tk, .int k' t'⟩]) (k := 1) rfl (by k_is) (by rw [putName_dict]; rfl) rfl (by simp) h
/-- self._initial_size = k, for the first time -/
theorem acc_newsize {k' : Int} {t' : Tok} {Q : Unit → Shared → Prop} (F : Fr h₀ L s.heap m) (X : (hd.heap_39 w.params).In h₀) (N : News h₀ L s.heap news) (hx : (x, accO dx items n) ∈ news) (hdx : (dx, dictOf [] 0) ∈ news)
    (h : ∀ h', Fr h₀ L h' m → News h₀ L h' (updL dx (sizeO (PyData.keyHash w.params (Str.ofString "_initial_size")) (s.toks + 1) k' t') news) → Q () { s with heap := h', toks := s.toks + 2 }) :
    wpAny (model prog w) A (setAttr (.ref x) (Str.ofString "_initial_size") (.int k' t')) Q E s :=
  acc_store F X N hx hdx (od' := sizeO (PyData.keyHash w.params (Str.ofString "_initial_size")) (s.toks + 1) k' t') (es := [⟨PyData.keyHash w.params (Str.ofString "_initial_size"), .str (Str.ofString "_initial_size") (s.toks + 1), .int k' t'⟩]) (k := 1) rfl (by k_is) (by rw [putName_dict]; rfl) rfl (by simp) h
end
theorem rules_05_1 : True := by
  (k_with "x_room" => (((try simp only [depth_under_make, depth_under_kw, depth_in1, depth_deeper]); (try dsimp only [ktrTop]); omega)))
  (k_with "x_start" => ((refine' ks_code_super ?z0k1 ?z0k2 ?z0k3 ?z0k4 ?z0k5 ?z0kA ?z0kF ?z0kK ?z0k6 ?z0k7 ?z0k8 ?z0k9 ?z0kB ?_ ?z0c1 ?z0c2 ?z0c3 ?z0c4; (case z0kA => exact rfl); (case z0kF => exact rfl); (case z0kK => first | assumption | exact rfl); (case z0k1 => k_asm); (case z0k2 => k_asm); (case z0k3 => k_asm); (case z0k4 => k_asm); (case z0k5 => k_asm); (case z0k6 => k_is); (case z0k7 => k_is); (case z0k8 => k_room); (case z0k9 => exact BindsTo.of_eq rfl); (case z0kB => exact locs rfl); (case z0c1 => decide); (case z0c2 => exact rfl); (case z0c3 => exact rfl); (case z0c4 => exact rfl); intro g' L' h' FG' F' N' B' X' T' l1; (try dsimp only); (try k_lift B'))))
  (k_with "getMethod ref" => ((k_here; (with_reducible show wpAny _ _ (getMethod (Value.ref _) (Str.ofString "__len__") _) _ _ _); k_dflt (refine' sup_len ?z0k1 ?z0k2 ?z0k3 ?z0k4 ?z0k5 ?_; (case z0k1 => k_asm); (case z0k2 => k_asm); (case z0k3 => k_asm); (case z0k4 => k_mem); (case z0k5 => exact acc_inst (by k_asm) (by k_mem) (by k_mem)); k_whole; intro _ _ _ _ _; (try k_sweep)))))
  (k_with "getMethod ref" => ((k_here; (with_reducible show wpAny _ _ (getMethod (Value.ref _) (Str.ofString "pop") _) _ _ _); k_dflt (refine' sup_pop ?z0k1 ?z0k2 ?z0k3 ?z0k4 ?z0k5 ?_; (case z0k1 => k_asm); (case z0k2 => k_asm); (case z0k3 => k_asm); (case z0k4 => k_mem); (case z0k5 => exact acc_inst (by k_asm) (by k_mem) (by k_mem)); k_whole; intro _ _ _ _ _; (try k_sweep)))))
  (k_with "getMethod ref" => ((k_here; (with_reducible show wpAny _ _ (getMethod (Value.ref _) (Str.ofString "__init__") _) _ _ _); k_dflt (refine' sup_init ?z0k1 ?z0k2 ?z0k3 ?z0k4 ?z0k5 ?_; (case z0k1 => k_asm); (case z0k2 => k_asm); (case z0k3 => k_asm); (case z0k4 => k_mem); (case z0k5 => exact acc_inst (by k_asm) (by k_mem) (by k_mem)); k_whole; intro _ _ _ _ _; (try k_sweep)))))
  (k_with "callWith ref" => ((k_here; k_dflt (refine' callWith_bound ?z0k1 ?z0k2 ?z0k3 ?_; (case z0k1 => k_asm); (case z0k2 => k_mem); (case z0k3 => first | exact .inl rfl | exact .inr rfl); k_whole))))
  (k_with "callWith ref" => ((k_here; k_dflt (first | (refine' callWith_K ?z0k1 ?z0k2 ?_; (case z0k1 => k_asm); (case z0k2 => k_is); k_whole) | (refine' callWith_K0 ?z0k1 ?z0k2 ?_; (case z0k1 => k_in); (case z0k2 => k_is); k_whole) | fail "no callee of mine"))))
  (k_with "call ref" => ((k_here; k_dflt (first
  | (refine' bound_len ?z0k1 ?z0k2 ?z0k3 ?_; (case z0k1 => k_asm); (case z0k2 => k_mem); (case z0k3 => k_mem); k_whole)
  | (refine' bound_pop ?z0k1 ?z0k2 ?z0k3 ?z0k4 ?z0k5 ?z0k6 ?z0k7 ?_; (case z0k1 => k_asm); (case z0k2 => k_asm); (case z0k3 => k_asm); (case z0k4 => k_mem); (case z0k5 => k_mem); (case z0k6 => k_mem); (case z0k7 => assumption); k_whole; intro _ _ _; (try k_sweep))
  | (refine' bound_init ?z0k1 ?z0k2 ?z0k3 ?z0k4 ?_; (case z0k1 => k_asm); (case z0k2 => k_asm); (case z0k3 => k_mem); (case z0k4 => k_mem); k_whole; intro _ _ _; (try k_sweep))))))
  (k_with "x_rel" => (first | k_asm | (refine cb_drop (by assumption) ?_; intro _ hp; simp [hp]; done) | (refine cb_drop (by assumption) (updL_sub ?_); intro _ hp; simp [hp]; done)))
  (k_with "subscriptTail" => ((k_here; (with_reducible show wpAny _ _ (subscriptTail _ _ (Value.ref _) (Value.ref _)) _ _ _); k_dflt (refine' acc_slice ?z0k1 ?z0k2 ?z0k3 ?z0k4 ?z0k5 ?z0k6 ?z0k7 ?z0k8 ?_ ?z0k9; (case z0k1 => k_asm); (case z0k2 => k_asm); (case z0k3 => k_asm); (case z0k4 => k_mem); (case z0k5 => k_mem); (case z0k6 => first | exact .int _ _ | exact .none); (case z0k7 => first | exact .int _ _ | exact .none); (case z0k8 => assumption); (case z0k9 => with_unfolding_all rfl); k_whole); intro _ _ _ _ _; (try k_sweep))))
  (k_with "setItem ref ref" => ((k_here; (with_reducible show wpAny _ _ (setItem (Value.ref _) (Value.ref _) (Value.ref _)) _ _ _); k_dflt (refine' acc_setsl ?z0k1 ?z0k2 ?z0k3 ?z0k4 ?z0k5 ?z0k6 ?z0k7 ?z0k8 ?z0k9 ?z0k10 ?z0k11 ?z0k12 ?_; (case z0k1 => k_asm); (case z0k2 => k_asm); (case z0k3 => k_asm); (case z0k4 => k_mem); (case z0k5 => k_mem); (case z0k6 => k_mem); (case z0k7 => exact rfl); (case z0k8 => exact rfl); (case z0k9 => first | exact .int _ _ | exact .none); (case z0k10 => assumption); (case z0k11 => first | assumption | simp); (case z0k12 => (intro _ hk; cases hk <;> first | exact ⟨by assumption, by assumption⟩ | omega)); k_whole); intro _ _ _ _; (try k_sweep))))
  (k_with "setAttr ref" => ((k_here; k_dflt (refine' acc_setsize ?z0k1 ?z0k2 ?z0k3 ?z0k4 ?z0k5 ?_; (case z0k1 => k_asm); (case z0k2 => k_asm); (case z0k3 => k_asm); (case z0k4 => k_mem); (case z0k5 => k_mem); k_whole); intro _ _ _; (try k_sweep))))
  (k_with "wpAt" => ((dsimp only; with_reducible refine ks_wpAt_execs_cons ?_)))
  (k_with "wpAt" => ((ks_step "eval Call"; k_dflt (refine ks_wpAt_MethodCall ?_))))
  (k_with "x_ne" => (first | with_reducible assumption | ((with_reducible refine Ne.symm ?_); with_reducible assumption) | fail "k_ne"))
  (k_with "x_mem" => (first | ((with_reducible refine' mem_updL_self ?z0hm); (case z0hm => k_mem)) | ((with_reducible refine' memL_updL_self ?z0hm); (case z0hm => k_mem)) | ((with_reducible refine' mem_updL_ne ?z0hm ?z0hne); (case z0hne => k_ne); (case z0hm => k_mem)) | ((with_reducible refine' memL_updL_ne ?z0hm ?z0hne); (case z0hne => k_ne); (case z0hm => k_mem)) | fail "k_mem"))
  (k_with "x_enter" => (k_dflt (refine' code_def ?z0k1 ?z0k2 ?z0k3 ?z0k4 ?z0k5 ?z0kA ?z0kF ?z0kK ?z0k6 ?z0k7 ?z0k8 ?z0k9 ?z0kB ?_ ?z0c2 ?z0c3 ?z0c4 ?z0c5; (case z0kA => exact rfl); (case z0kF => exact rfl); (case z0kK => first | assumption | exact rfl); (case z0k1 => k_asm); (case z0k2 => k_asm); (case z0k3 => k_asm); (case z0k4 => k_asm); (case z0k5 => k_asm); (case z0k6 => k_is); (case z0k7 => k_is); (case z0k8 => k_room); (case z0k9 => first | exact BindsTo.of_eq rfl | exact binds_K (by k_in) rfl (by k_is) rfl rfl rfl); (case z0c5 => decide); (case z0kB => exact locs rfl); (case z0c2 => exact rfl); (case z0c3 => exact rfl); (case z0c4 => exact rfl); k_whole; intro g' L' h' FG' F' N' B' X' T'; (try dsimp only); (try k_lift B'); (try k_fold))))
  (k_with "x_inv" => (((case sB => k_asm); (case sF => k_asm); (case sX => k_asm); (case sN => k_asm); (case sT => k_asm); (case s24 => first | assumption | exact Fr.keep (by assumption) _ _ (by assumption) | exact Fr.keep (by assumption) _ _ (Fr.keep (by assumption) _ _ (by assumption))); (case sK => first | exact rfl | assumption); (case sD => ((try dsimp only [ktrTop]); omega)); (case sU => ((try dsimp only [ktrTop]); omega)))))
  trivial
theorem drop_popfrom {h₀ h : Heap} {L x dx l l2 : Addr} {o2 : Obj} {items : Array Value} {n' : Nat} {k : Int} {news : List (Addr × Obj)}
   (N : News h₀ L h (updL x (accO dx (items.extract 0 (Option.getD (some k) 0).toNat ++ #[]) n') ((l2, o2) :: (l, { cls := .type "list", data := .seq (slicePick items (some k) none none) }) :: news))) (hk0 : 0 ≤ k) (hk1 : k ≤ items.size) :
   News h₀ L h (updL x (accO dx (items.extract 0 k.toNat) n') ((l, listOf (items.toList.drop k.toNat).toArray 0) :: news)) := by
  obtain ⟨j, rfl⟩ := Int.eq_ofNat_of_zero_le hk0
  rw [slicePick_from items j (by omega)] at N
  simp only [Option.getD_some, Array.append_empty] at N
  exact cb_drop N fun p hp => List.mem_cons_of_mem _ hp

theorem led_ne {h₀ h : Heap} {L a b : Addr} {o₁ o₂ : Obj} {news : List (Addr × Obj)} (N : News h₀ L h news) (h1 : (a, o₁) ∈ news) (h2 : (b, o₂) ∈ news) (hc : o₁.cls ≠ o₂.cls) : a ≠ b := by
  rintro rfl
  have e := (N _ h1).1.symm.trans (N _ h2).1
  cases e
  exact hc rfl
theorem drop_reset {h₀ h : Heap} {L x dx : Addr} {o : Obj} {items ys : Array Value} {n' : Nat} {news : List (Addr × Obj)}
   (N : News h₀ L h (updL dx o (updL x (accO dx (items.extract 0 (Option.getD (none : Option Int) 0).toNat ++ ys) n') news))) : News h₀ L h (updL dx o (updL x (accO dx ys n') news)) := by
  have e : items.extract 0 (Option.getD (none : Option Int) 0).toNat ++ ys = ys := by simp
  rw [e] at N
  exact N

set_option maxHeartbeats 0 in
theorem push_spec {w : World} {news : List (Addr × Obj)} {x dx : Addr} {items : Array Value} {n : Nat} {osz : Obj} {a b : Value}
   (hx : (x, accO dx items n) ∈ news) (hdx : (dx, osz) ∈ news) (hos : shadowIn (some osz) (Str.ofString "append") = some false) (hsz : items.size ≤ 1000) :
   Spec 3 w 58 [.ref x, a, b] news (fun v news' => v = .none ∧ ∃ q, (∀ p ∈ news, p.1 < q) ∧ news' = updL x (accO dx (items.push (.ref q)) (n + 1)) ((q, { cls := .type "tuple", data := .seq #[a, b] }) :: news)) := by
  intro p loose mean mg mb dp un gd cn cs L a' ccd cl outer A₀ base h₀ m s Q E B F X N T X24 hk hdp hun ret
  refine wpAny_call ?_
  k_extra "x_enter"
  k_steps
  exact ret _ _ _ _ _ (by k_asm) (by k_asm) ⟨rfl, _, by assumption, rfl⟩

set_option maxHeartbeats 0 in
theorem count_spec {w : World} {news : List (Addr × Obj)} {x dx : Addr} {items : Array Value} {n : Nat} {osz : Obj}
   (hx : (x, accO dx items n) ∈ news) (hdx : (dx, osz) ∈ news) :
   Spec 3 w 111 [.ref x] news (fun v news' => (∃ t, v = .int items.size t) ∧ news' = news) := by
  intro p loose mean mg mb dp un gd cn cs L a' ccd cl outer A₀ base h₀ m s Q E B F X N T X24 hk hdp hun ret
  refine wpAny_call ?_
  k_dflt k_extra "x_start"
  k_steps
  exact ret _ _ _ _ _ (by k_asm) (by k_extra "x_rel") ⟨⟨_, rfl⟩, rfl⟩

theorem rules_05_2 : True := by
  (k_with "call ref" => ((k_here; (with_reducible show wpAny _ _ (call (Value.ref 111) _) _ _ _); k_dflt (refine' Spec.use (count_spec ?z0s1 ?z0s2) ?sB ?sF ?sX ?sN ?sT ?s24 ?sK ?sD ?sU ?_; k_extra "x_inv"; (case z0s1 => k_mem); (case z0s2 => k_mem); k_whole); intro _ _ _ _ _ _ _ _ hR9; (obtain ⟨⟨_, e9⟩, e9'⟩ := hR9); subst e9; subst e9'; (try k_sweep))))
  trivial
set_option maxHeartbeats 0 in
theorem popfrom_spec {w : World} {news : List (Addr × Obj)} {x dx : Addr} {items : Array Value} {n : Nat} {osz : Obj} {k : Int} {t : Tok}
   (hx : (x, accO dx items n) ∈ news) (hdx : (dx, osz) ∈ news) (hsz : items.size ≤ 1000) (hk0 : 0 ≤ k) (hk1 : k ≤ items.size) :
   Spec 3 w 66 [.ref x, .int k t] news (fun v news' => ∃ l n', v = .ref l ∧ (∀ p ∈ news, p.1 < l) ∧ news' = updL x (accO dx (items.extract 0 k.toNat) n') ((l, listOf (items.toList.drop k.toNat).toArray 0) :: news)) := by
  intro p loose mean mg mb dp un gd cn cs L a' ccd cl outer A₀ base h₀ m s Q E B F X N T X24 hk hdp hun ret
  refine wpAny_call ?_
  k_extra "x_enter"
  k_steps
  exact ret _ _ _ _ _ (by k_asm) (drop_popfrom (by assumption) hk0 hk1) ⟨_, _, rfl, by assumption, rfl⟩

set_option maxHeartbeats 0 in
theorem reset_spec {w : World} {news : List (Addr × Obj)} {x dx y : Addr} {items ys : Array Value} {n ny : Nat} {hh : Int} {tk : Tok} {k : Int} {t : Tok}
   (hx : (x, accO dx items n) ∈ news) (hdx : (dx, sizeO hh tk k t) ∈ news) (hy : (y, listOf ys ny) ∈ news) (hsz : items.size ≤ 1000) (hsy : ys.size ≤ 1000) :
   Spec 3 w 96 [.ref x, .ref y] news (fun v news' => v = .none ∧ ∃ n' t', news' = updL dx (sizeO hh tk 0 t') (updL x (accO dx ys n') news)) := by
  intro p loose mean mg mb dp un gd cn cs L a' ccd cl outer A₀ base h₀ m s Q E B F X N T X24 hk hdp hun ret
  have hne : dx ≠ x := led_ne N hdx hx (by intro e; cases e)
  refine wpAny_call ?_
  k_extra "x_enter"
  k_steps
  exact ret _ _ _ _ _ (by k_asm) (drop_reset (by assumption)) ⟨rfl, _, _, rfl⟩

set_option maxHeartbeats 0 in
theorem pop_spec {w : World} {news : List (Addr × Obj)} {x dx : Addr} {ys : Array Value} {n : Nat} {osz : Obj} {v : Value}
   (hx : (x, accO dx (ys.push v) n) ∈ news) (hdx : (dx, osz) ∈ news) (hos : shadowIn (some osz) (Str.ofString "part_count") = some false) (hsz : ys.size < 1000) :
   Spec 4 w 74 [.ref x] news (fun r news' => r = v ∧ news' = updL x (accO dx ys (n + 1)) news) := by
  intro p loose mean mg mb dp un gd cn cs L a' ccd cl outer A₀ base h₀ m s Q E B F X N T X24 hk hdp hun ret
  refine wpAny_call ?_
  k_dflt k_extra "x_start"
  k_steps
  · exfalso
    have h0 := ‹((ys.push v).size : Int) = 0›
    simp at h0
    omega
  · exact ret _ _ _ _ _ (by k_asm) (by k_extra "x_rel") ⟨rfl, rfl⟩
/-! ledgers that stand but for some addresses -/
abbrev Led := List (Addr × Obj)
def Keep (xs : List Addr) (news nw : Led) : Prop := ∀ p ∈ news, p.1 ∉ xs → p ∈ nw
theorem Keep.mem {xs : List Addr} {news nw : Led} {p : Addr × Obj} (k : Keep xs news nw) (h : p ∈ news) (hx : p.1 ∉ xs) : p ∈ nw := k p h hx
theorem Keep.mem0 {news nw : Led} {p : Addr × Obj} (k : Keep [] news nw) (h : p ∈ news) : p ∈ nw := k p h (by simp)
theorem Keep.memL0 {news nw : Led} {p : Addr × Obj} (k : Keep [] news nw) (h : List.Mem p news) : List.Mem p nw := k p h (by simp)
theorem Keep.mem1 {x : Addr} {news nw : Led} {p : Addr × Obj} (k : Keep [x] news nw) (h : p ∈ news) (hx : p.1 ≠ x) : p ∈ nw := k p h (by simpa using hx)
theorem Keep.memL1 {x : Addr} {news nw : Led} {p : Addr × Obj} (k : Keep [x] news nw) (h : List.Mem p news) (hx : p.1 ≠ x) : List.Mem p nw := k p h (by simpa using hx)
theorem Keep.rfl' {xs : List Addr} {news : Led} : Keep xs news news := fun _ h _ => h
theorem Keep.trans {xs ys : List Addr} {a b c : Led} (k : Keep xs a b) (l : Keep ys b c) (hx : ∀ x ∈ xs, x ∈ ys) : Keep ys a c := fun p h hn => l p (k p h fun q => hn (hx _ q)) hn
theorem Keep.more {xs ys : List Addr} {a b : Led} (k : Keep xs a b) (hx : ∀ x ∈ xs, x ∈ ys) : Keep ys a b := fun p h hn => k p h fun q => hn (hx _ q)

theorem Keep.cons {xs : List Addr} {news nw : Led} {q : Addr × Obj} (k : Keep xs news nw) : Keep xs news (q :: nw) := fun p h hx => List.mem_cons_of_mem _ (k p h hx)
theorem Keep.app {xs : List Addr} {news nw l : Led} (k : Keep xs news nw) : Keep xs news (l ++ nw) := fun p h hx => List.mem_append_right _ (k p h hx)
theorem Keep.upd {xs : List Addr} {news nw : Led} {x : Addr} {o : Obj} (k : Keep xs news nw) (hx : x ∈ xs) : Keep xs news (updL x o nw) := fun p h hn => mem_updL_ne (k p h hn) (fun e => hn (e ▸ hx))
theorem Keep.updN {xs : List Addr} {news nw : Led} {x : Addr} {o : Obj} (k : Keep xs news nw) (hx : ∀ p ∈ news, p.1 ≠ x) : Keep xs news (updL x o nw) := fun p h hn => mem_updL_ne (k p h hn) (hx p h)
theorem ne_of_cls {h₀ h : Heap} {L : Addr} {news : Led} {a b : Addr} {o o' : Obj} (N : News h₀ L h news) (ha : (a, o) ∈ news) (hb : (b, o') ∈ news) (hc : o.cls ≠ o'.cls) : a ≠ b := by
  rintro rfl
  have e := (N _ ha).1.symm.trans (N _ hb).1
  exact hc (congrArg Obj.cls (Option.some.inj e))
theorem rules_06_1 : True := by
  (k_with "x_updF" => (first | with_reducible assumption | with_reducible exact Keep.rfl' | ((with_reducible refine Keep.cons ?_); k_updF) | ((with_reducible refine' Keep.upd ?z0u ?z0v); (case z0v => with_reducible first | exact List.mem_cons_self | exact List.mem_cons_of_mem _ List.mem_cons_self | exact List.mem_cons_of_mem _ (List.mem_cons_of_mem _ List.mem_cons_self) | fail "k_updF"); (case z0u => k_updF)) | ((with_reducible refine' Keep.updN ?z0u ?z0v); (case z0v => assumption); (case z0u => k_updF)) | ((with_reducible refine Keep.app ?_); k_updF) | exact Keep.rfl' | fail "k_updF"))
  (k_with "x_mem" => (first | ((with_reducible refine' Keep.mem0 ?z0a ?z0b); (case z0a => with_reducible assumption); (case z0b => k_mem)) | ((with_reducible refine' Keep.memL0 ?z0a ?z0b); (case z0a => with_reducible assumption); (case z0b => k_mem)) | ((with_reducible refine' Keep.mem1 ?z0a ?z0b ?z0c); (case z0a => with_reducible assumption); (case z0c => k_ne); (case z0b => k_mem)) | ((with_reducible refine' Keep.memL1 ?z0a ?z0b ?z0c); (case z0a => with_reducible assumption); (case z0c => k_ne); (case z0b => k_mem)) | fail "k_mem"))
  trivial

/-! a source of items: an iterator with the objects that it keeps -/
inductive SrcOk (prog : Program) (w : World) (A : Around) (target : Expr) (h₀ : Heap) (lim : Addr) (hp : Heap) (I : Addr) (ws : List (Addr × String)) (keep : Led) (n : Nat) (P : Nat → Value → Heap → Prop) : Prop
  | mk (fp wr : List Addr) (Md : Nat → Value → Heap → Prop) (St : Nat → Heap → Prop) (_ : KTurns prog w A target I fp wr n P Md St) (_ : St 0 hp) (_ : ∀ i h, St i h → ∃ its, Objs ws its ∧ ∀ p ∈ its, h.get? p.1 = some p.2)
    (_ : ∀ b ∈ ws.map (·.1), b ∈ fp ∧ lim ≤ b) (_ : ∀ b ∈ wr, b ∈ ws.map (·.1)) (_ : ∀ b ∈ fp, b ∈ ws.map (·.1) ∨ (∃ o, (b, o) ∈ keep) ∨ ∃ o, h₀.get? b = some o)
    (_ : ∀ i (s : Shared) (Q : Value → Shared → Prop) (E : Value → Shared → Prop), St i s.heap → Q (.ref I) s → wpAny (model prog w) A (pyIter (.ref I)) Q E s)

theorem objs_of {ws : List (Addr × String)} {its : Led} (h : Objs ws its) {b : Addr} (hb : b ∈ ws.map (·.1)) : ∃ o, (b, o) ∈ its := by
  rw [← h.map] at hb
  obtain ⟨q, hq, rfl⟩ := List.mem_map.mp hb
  exact ⟨q.2, hq⟩
theorem objs_cls : ∀ {ws : List (Addr × String)} {its : Led}, Objs ws its → ∀ q ∈ its, ∃ v ∈ ws, q.1 = v.1 ∧ q.2.cls = .type v.2
  | [], [], _, _, hq => nomatch hq
  | [], _ :: _, h, _, _ => (show False from h).elim
  | _ :: _, [], h, _, _ => (show False from h).elim
  | v :: ws, p :: ps, h, q, hq => by
    rcases List.mem_cons.mp hq with rfl | hq
    · exact ⟨v, List.mem_cons_self .., h.1⟩
    · obtain ⟨u, hu, r⟩ := objs_cls h.2 q hq
      exact ⟨u, List.mem_cons_of_mem _ hu, r⟩

/-- a for loop that stands at its iterator -/
def LoopG (prog : Program) (w : World) (A : Around) (env : Env) (target : PySem.Expr) (body : List Stmt) (Q : Flow → Shared → Prop) (E : Value → Shared → Prop) (it : Value) (s : Shared) : Prop :=
  PassesOwn (model prog w) A env E → codeAny (model prog w) A (.forLoop target it body [] env) (fun r s' => match r with | .ok f => Q f s' | .error e => cameBackBy (model prog w) A env E e s') s
theorem For_g {prog : Program} {w : World} {A : Around} {E : Value → Shared → Prop} {s : Shared} {env : Env} {h₀ : Heap} {target : PySem.Expr} {body : List Stmt} {Q : Flow → Shared → Prop} {iter : PySem.Expr} {pos : Pos} {m : Str → Option Value} (_ : Fr h₀ env.locals s.heap m)
    (h : wpAny (model prog w) A (eval iter env) (fun xv s₁ => wpAny (model prog w) A (pyIter xv) (fun it s₂ => LoopG prog w A env target body Q E it s₂) E s₁) E s)
    (hs : ∀ x, foldedSetIterable iter env x = pure x := by intro _; rfl) (hE : PassesOwn (model prog w) A env E := by passes_own) :
    wpAny (model prog w) A (exec (.For target iter body [] pos) env) Q E s :=
  wpAny_For (wpAny_mono h (fun _ _ h₁ => wpAny_mono h₁ (fun _ _ h₂ => h₂ hE) fun _ _ e => e) fun _ _ e => e) hs
/-- the end of a turn -/
inductive TEnd (h₀ : Heap) (L : Addr) (s₁ : Shared) (need : Led) (xs : List Addr) (news : Led) (J : (Str → Option Value) → Led → Prop) (s' : Shared) : Prop
  | mk (h' : Heap) (tk : Nat) (gs : Array GenState) (m' : Str → Option Value) (nw' : Led) (_ : s' = { s₁ with heap := h', toks := tk, gens := gs }) (_ : Fr h₀ L h' m') (_ : News h₀ L h' nw') (_ : ∀ p ∈ need, p ∈ nw') (_ : Keep xs news nw') (_ : J m' nw') (_ : Bare s₁.gens gs)
def TPost (h₀ : Heap) (L : Addr) (s₁ : Shared) (need : Led) (xs : List Addr) (news : Led) (J : (Str → Option Value) → Led → Prop) (Q : Flow → Shared → Prop) (f : Flow) (s' : Shared) : Prop :=
  match f with
  | .ret v => Q (.ret v) s'
  | .brk => Q .next s'
  | _ => TEnd h₀ L s₁ need xs news J s'

section
variable {prog : Program} {w : World} {A : Around} {E : Value → Shared → Prop} {s : Shared} {env : Env} {h₀ : Heap} {target : PySem.Expr} {body : List Stmt} {Q : Flow → Shared → Prop}
inductive FsJ (St : Nat → Heap → Prop) (h₀ : Heap) (L : Addr) (s : Shared) (xs : List Addr) (news : Led) (J : Nat → (Str → Option Value) → Led → Prop) (off : Addr × Obj → Bool) (n k : Nat) (s' : Shared) : Prop
  | mk (h' : Heap) (tk : Nat) (gs : Array GenState) (m' : Str → Option Value) (nw : Led) (i : Nat) (_ : s' = { s with heap := h', toks := tk, gens := gs }) (_ : St i h') (_ : Fr h₀ L h' m') (_ : News h₀ L h' nw) (_ : ∀ p ∈ nw, off p = true) (_ : Keep xs news nw) (_ : J i m' nw) (_ : i ≤ n) (_ : k = n + 1 - i) (_ : Bare s.gens gs)
theorem for_src {lim I : Addr} {ws : List (Addr × String)} {keep : Led} {n : Nat} {P : Nat → Value → Heap → Prop} {m₀ : Str → Option Value} {news : Led}
    (S : SrcOk prog w A target h₀ lim s.heap I ws keep n P) (F : Fr h₀ env.locals s.heap m₀) (N : News h₀ env.locals s.heap news) (hL : env.locals < lim) (hlim : ∀ p ∈ news, p.1 < lim) (hkeep : ∀ p ∈ keep, p ∈ news)
    (xs : List Addr) (hxs : ∀ p ∈ keep, p.1 ∉ xs) (kp : Addr × Obj → Prop) (hkp : ∀ p, kp p → ∀ v ∈ ws, p.1 = v.1 → p.2.cls ≠ .type v.2)
    (J : Nat → (Str → Option Value) → Led → Prop) (J0 : J 0 m₀ news) (hm : ∀ i m nw nw', J i m nw → (∀ p ∈ nw, kp p → p ∈ nw') → J i m nw')
    (turn : ∀ i v m₁ nw h tk gs, Bare s.gens gs → i < n → P i v h → J i m₁ nw → Keep xs news nw → Fr h₀ env.locals h m₁ → AllObj ws (fun its => News h₀ env.locals h (its ++ nw) →
      wpAny (model prog w) A (assign target env v) (fun _ s₂ => wpAny (model prog w) A (execs body env) (TPost h₀ env.locals { s with heap := h, toks := tk, gens := gs } its xs news (J (i + 1)) Q) E s₂) E { s with heap := h, toks := tk, gens := gs }))
    (done : ∀ m₁ nw h tk gs, Bare s.gens gs → J n m₁ nw → Keep xs news nw → Fr h₀ env.locals h m₁ → News h₀ env.locals h nw → Q .next { s with heap := h, toks := tk, gens := gs }) :
    LoopG prog w A env target body Q E (.ref I) s := by
  intro hE
  obtain ⟨fp, wr, Md, St, W, st0, hobj, hws, hwr, hfp, _⟩ := S
  have hL₀ : h₀.get? env.locals = none := Heap.get?_none_of_le F.above
  have old : ∀ b, lim ≤ b → h₀.get? b = none := fun b hb => Heap.get?_none_of_le (Nat.le_trans F.above (Nat.le_trans (Nat.le_of_lt hL) hb))
  have wsne : ∀ b ∈ ws.map (·.1), b ≠ env.locals := fun b hb e => Nat.lt_irrefl _ (Nat.lt_of_lt_of_le hL (e ▸ (hws b hb).2))
  have offn : ∀ p ∈ news, p.1 ∉ ws.map (·.1) := fun p hp hw => Nat.lt_irrefl _ (Nat.lt_of_lt_of_le (hlim p hp) (hws _ hw).2)
  let off : Addr × Obj → Bool := fun p => decide (p.1 ∉ ws.map (·.1))
  refine codeAny_forLoop_any
    (FsJ St h₀ env.locals s xs news J off n) ?_ (n + 1)
    ⟨s.heap, s.toks, s.gens, m₀, news, 0, rfl, st0, F, N, fun p hp => decide_eq_true (offn p hp), Keep.rfl', J0, Nat.zero_le _, rfl, Bare.refl _⟩
  rintro k s' ⟨h', tk, gs, m', nw, i, rfl, st', F', N', hoff, hK, hJ, hi, rfl, hg⟩
  have wrne : ∀ b, b ∉ ws.map (·.1) → b ∉ wr := fun b hb hw => hb (hwr b hw)
  have step : ∀ h₁ : Heap, (∀ b o, b ∉ wr → h'.get? b = some o → h₁.get? b = some o) → Fr h₀ env.locals h₁ m' ∧ News h₀ env.locals h₁ nw := fun h₁ hk =>
    ⟨⟨F'.ns.at' fun o e => hk _ o (wrne _ fun hw => wsne _ hw rfl) e, fun b o e => hk b o (fun hw => by rw [old _ (hws _ (hwr _ hw)).2] at e; cases e) (F'.keep b o e), F'.above⟩,
      fun p hp => ⟨hk _ _ (wrne _ (of_decide_eq_true (hoff p hp))) (N' p hp).1, (N' p hp).2⟩⟩
  by_cases hlt : i < n
  · refine W.item i _ _ _ hlt st' fun v h₁ tk₁ hMd hk₁ => ?_
    refine W.go i v _ _ _ hMd fun h₂ hP st₂ hk₂ => ?_
    obtain ⟨F₂, N₂⟩ := step h₂ fun b o hb x => hk₂ b o hb (hk₁ b o hb x)
    obtain ⟨its, hits, hval⟩ := hobj (i + 1) h₂ st₂
    have N₃ : News h₀ env.locals h₂ (its ++ nw) := fun p hp => by
      rcases List.mem_append.mp hp with hp | hp
      · have h1 : p.1 ∈ ws.map (·.1) := by rw [← hits.map]; exact List.mem_map_of_mem hp
        exact ⟨hval p hp, wsne _ h1, old _ (hws _ h1).2⟩
      · exact N₂ _ hp
    have fin : ∀ s₃, TEnd h₀ env.locals { s with heap := h₂, toks := tk₁, gens := gs } its xs news (J (i + 1)) s₃ →
        ∃ k', k' < n + 1 - i ∧ FsJ St h₀ env.locals s xs news J off n k' s₃ := by
      rintro s₃ ⟨h₃, tk₃, gs₃, m₃, nw₃, rfl, F₃, N₃', hn, hK₃, hJ₃, hg₃⟩
      refine ⟨n + 1 - (i + 1), by omega, h₃, tk₃, gs₃, m₃, nw₃.filter off, i + 1, rfl, ?_, F₃, fun p hp => N₃' p (List.mem_filter.mp hp).1, fun p hp => (List.mem_filter.mp hp).2, fun p hp hx => List.mem_filter.mpr ⟨hK₃ p hp hx, decide_eq_true (offn p hp)⟩, ?_, hlt, rfl, hg.trans hg₃⟩
      · refine W.frame _ _ _ st₂ fun b hb o e => ?_
        rcases hfp b hb with h3 | ⟨o', h3⟩ | ⟨o', h3⟩
        · obtain ⟨o', h4⟩ := objs_of hits h3
          have h5 := hval _ h4
          rw [e] at h5; cases h5
          exact (N₃' _ (hn _ h4)).1
        · have h4 := (N₃ _ (List.mem_append_right _ (hK _ (hkeep _ h3) (hxs _ h3)))).1
          rw [e] at h4; cases h4
          exact (N₃' _ (hK₃ _ (hkeep _ h3) (hxs _ h3))).1
        · have h4 := F₂.keep _ _ h3
          rw [e] at h4; cases h4
          exact F₃.keep _ _ h3
      · refine hm _ _ _ _ hJ₃ fun p hp hk => List.mem_filter.mpr ⟨hp, decide_eq_true fun hw => ?_⟩
        obtain ⟨o, ho⟩ := objs_of hits hw
        have e1 := (N₃' _ hp).1
        have e2 := (N₃' _ (hn _ ho)).1
        rw [e1] at e2
        have e3 : p.2 = o := Option.some.inj e2
        obtain ⟨u, hu, e4, e5⟩ := objs_cls hits _ ho
        exact hkp p hk u hu e4 (by rw [e3]; exact e5)
    refine wpAny_passesOwn hE (wpAny_mono ((turn i v m' nw h₂ tk₁ gs hg hlt hP hJ hK F₂).at hits N₃) (fun _ s₂ h₂' => wpAny_passesOwn hE (wpAny_mono h₂' (fun f s₃ h₃ => ?_) fun _ _ e => e)) fun _ _ e => e)
    cases f with
    | ret v => exact h₃
    | brk => exact h₃
    | next => exact fin _ h₃
    | cont => exact fin _ h₃
  · have hin : i = n := by omega
    subst hin
    refine W.done _ _ _ st' fun h₁ tk₁ hk₁ => wpAny_execs_nil ?_
    obtain ⟨F₁, N₁⟩ := step h₁ hk₁
    exact done m' nw h₁ tk₁ gs hg hJ hK F₁ N₁
end
/-! sources: a list of the ledger, a str, a range, an _Accumulator, enumerate of a list that stands, zip of two lists -/
section
variable {prog : Program} {w : World} {A : Around} {E : Value → Shared → Prop} {s : Shared} {h₀ : Heap} {L : Addr} {m : Str → Option Value} {news : Led} {target : Expr}
theorem src_list {ax : Addr} {lo : Obj} {vs : List Value} {n : Nat} {Q : Value → Shared → Prop} (hh : A.handled = none) (F : Fr h₀ L s.heap m) (N : News h₀ L s.heap news) (hm : (ax, lo) ∈ news) (hc : lo.cls = .type "list") (hd : lo.data = .seq vs.toArray n)
    (h : ∀ lim I h', SrcOk prog w A target h₀ lim h' I [(I, "list_iterator")] [(ax, lo)] vs.length (fun i v _ => vs[i]? = some v) → Fr h₀ L h' m → News h₀ L h' news → L < lim → (∀ p ∈ news, p.1 < lim) → Q (.ref I) { s with heap := h' }) :
    wpAny (model prog w) A (pyIter (.ref ax)) Q E s := by
  have hax := N _ hm
  have hl : s.heap.IsList ax vs.toArray := ⟨lo, hax.1, hc, n, hd⟩
  have hlt : ax < s.heap.objs.size := Heap.lt_size hax.1
  refine wpAny_pyIter_list hl (h s.heap.objs.size s.heap.objs.size _ ?_ (F.push _) (N.grown fun _ _ e => Heap.get?_push_of_some _ e) F.ns.lt fun p hp => Heap.lt_size (N p hp).1)
  have W := Walks.list (prog := prog) (w := w) hh s.heap.objs.size ax (Nat.ne_of_lt hlt) vs.toArray
  rw [show vs.toArray.size = vs.length by simp, show (fun (i : Nat) (v : Value) => vs.toArray[i]? = some v) = (fun i v => vs[i]? = some v) from by funext i v; simp] at W
  refine ⟨_, _, _, _, KTurns.ofWalks (target := target) W fun i v s Q E st q => letGo_listiter st.1 q, ⟨⟨_, Heap.get?_push_size _ rfl, rfl, rfl⟩, hl.at fun o e => Heap.get?_push_of_some _ e⟩, ?_, ?_, ?_, ?_, fun i s Q E st q => W.self i s Q E st q⟩
  · intro i h st
    obtain ⟨it, hit, hic, _⟩ := st.1
    exact ⟨[(s.heap.objs.size, it)], ⟨⟨rfl, hic⟩, trivial⟩, fun p hp => by rw [List.mem_singleton.mp hp]; exact hit⟩
  · intro b hb
    have hb' : b = s.heap.objs.size := by simpa using hb
    rw [hb']; exact ⟨List.mem_cons_self .., Nat.le_refl _⟩
  · intro b hb; simpa using hb
  · intro b hb
    have hb' : b = s.heap.objs.size ∨ b = ax := by simpa using hb
    rcases hb' with e | e
    · exact .inl (by simp [e])
    · exact .inr (.inl ⟨lo, by simp [e]⟩)

theorem src_str {x : Str} {t : Tok} {Q : Value → Shared → Prop} {n0 : Str} {px : Pos} (ht : target = .Name n0 px) (hh : A.handled = none) (F : Fr h₀ L s.heap m) (N : News h₀ L s.heap news)
    (h : ∀ lim I nm h', nm = "str_iterator" ∨ nm = "str_ascii_iterator" → SrcOk prog w A target h₀ lim h' I [(I, nm)] [] x.cps.size (fun i v _ => SignAt x i v) → Fr h₀ L h' m → News h₀ L h' news → L < lim → (∀ p ∈ news, p.1 < lim) → Q (.ref I) { s with heap := h' }) :
    wpAny (model prog w) A (pyIter (.str x t)) Q E s := by
  subst ht
  have go : ∀ (o : Obj) (nm : String) (_ : nm = "str_iterator" ∨ nm = "str_ascii_iterator") (_ : Walks prog w A s.heap.objs.size [s.heap.objs.size] [s.heap.objs.size] x.cps.size (SignAt x) (fun i h => h.IsStrIter s.heap.objs.size nm x t i)) (_ : (s.heap.push o).IsStrIter s.heap.objs.size nm x t 0),
      Q (.ref s.heap.objs.size) { s with heap := s.heap.push o } := by
    intro o nm hnm W st0
    refine h s.heap.objs.size _ nm _ hnm ⟨_, _, _, _, KTurns.ofWalks W (fun i v s Q E st q => wpAny_of_eq rfl q), st0, ?_, ?_, ?_, ?_, W.self⟩ (F.push _) (N.grown fun _ _ e => Heap.get?_push_of_some _ e) F.ns.lt fun p hp => Heap.lt_size (N p hp).1
    · intro i h st
      obtain ⟨it, hit, hic, _⟩ := st
      exact ⟨[(s.heap.objs.size, it)], ⟨⟨rfl, hic⟩, trivial⟩, fun p hp => by rw [List.mem_singleton.mp hp]; exact hit⟩
    · intro b hb
      have hb' : b = s.heap.objs.size := by simpa using hb
      rw [hb']; exact ⟨List.mem_cons_self .., Nat.le_refl _⟩
    · intro b hb; simpa using hb
    · intro b hb
      have hb' : b = s.heap.objs.size := by simpa using hb
      exact .inl (by simp [hb'])
  cases ha : x.cps.all (· < 128)
  · exact wpAny_pyIter_wide ha (go _ _ (.inl rfl) (Walks.strWide hh _ x t) ⟨_, Heap.get?_push_size _ rfl, rfl, rfl⟩)
  · exact wpAny_pyIter_ascii ha (go _ _ (.inr rfl) (Walks.strAscii hh _ x t) ⟨_, Heap.get?_push_size _ rfl, rfl, rfl⟩)

theorem src_range {r : Addr} {a b : Int} {t u v : Tok} {n : Nat} {Q : Value → Shared → Prop} {n0 : Str} {px : Pos} (ht : target = .Name n0 px) (hh : A.handled = none) (hr : IsRange s.heap r a b 1 t u v) (hsm : Builtin.Range.small a b 1 = true) (hn : Builtin.Range.rangeSize a b 1 = (n : Int)) (F : Fr h₀ L s.heap m) (N : News h₀ L s.heap news)
    (h : ∀ lim I nm h', nm = "range_iterator" → SrcOk prog w A target h₀ lim h' I [(I, nm)] [] n (fun i v _ => ∃ t, v = .int (a + (i : Int)) t) → Fr h₀ L h' m → News h₀ L h' news → L < lim → (∀ p ∈ news, p.1 < lim) → Q (.ref I) { s with heap := h' }) :
    wpAny (model prog w) A (pyIter (.ref r)) Q E s := by
  subst ht
  refine wpAny_pyIter_range hr hsm ?_
  have W : Walks prog w A s.heap.objs.size [s.heap.objs.size] [s.heap.objs.size] n (fun i v => ∃ t, v = .int (a + (i : Int)) t) (fun i h => IsRangeIter h s.heap.objs.size (a + (i : Nat) * 1) ((n : Int) - (i : Nat)) 1) := LCg.range_walks hh a n
  refine h s.heap.objs.size _ "range_iterator" _ rfl ⟨_, _, _, _, KTurns.ofWalks W (fun i v s Q E st q => wpAny_of_eq rfl q), (by show IsRangeIter _ _ _ _ _; rw [hn]; simpa using Heap.get?_push_size _ rfl), ?_, ?_, ?_, ?_, W.self⟩ (F.push _) (N.grown fun _ _ e => Heap.get?_push_of_some _ e) F.ns.lt fun p hp => Heap.lt_size (N p hp).1
  · intro i h st
    have st' : ∃ o : Obj, h.get? s.heap.objs.size = some o ∧ o.cls = .type "range_iterator" := ⟨_, st, rfl⟩
    obtain ⟨it, hit, hic⟩ := st'
    exact ⟨[(s.heap.objs.size, it)], ⟨⟨rfl, hic⟩, trivial⟩, fun p hp => by rw [List.mem_singleton.mp hp]; exact hit⟩
  · intro b hb
    have hb' : b = s.heap.objs.size := by simpa using hb
    rw [hb']; exact ⟨List.mem_cons_self .., Nat.le_refl _⟩
  · intro b hb; simpa using hb
  · intro b hb
    have hb' : b = s.heap.objs.size := by simpa using hb
    exact .inl (by simp [hb'])
end

/-! an _Accumulator's items -/
section
variable {prog : Program} {w : World} {A : Around} {E : Value → Shared → Prop} {s : Shared} {h₀ : Heap} {L : Addr} {m : Str → Option Value} {news : Led} {target : Expr} {x dx : Addr} {items : Array Value} {k : Nat} {osz : Obj}
theorem acc_next {it : Addr} {i : Nat} {v : Value} {Q : Option Value → Shared → Prop} (hit : s.heap.IsListIter it x i) (hx : s.heap.get? x = some (accO dx items k)) (hv : items[i]? = some v)
    (hQ : ∀ h', h'.IsListIter it x (i + 1) → Heap.SameBut it s.heap h' → Q (some v) { s with heap := h' }) : wpAny (model prog w) A (pyNext (.ref it)) Q E s := by
  obtain ⟨o, ho, hc, hd⟩ := id hit
  unfold pyNext
  refine wpAny_bind (wpAny_attempt (wpAny_callSpecial?_slot (name := Str.ofString "__next__") hit.typeIs slot_listiter_next (wpAny_call_entry slot_listiter_next hit.typeIs entry_listiter_next ?_ (args_listiter_next _))))
  show wpAny _ _ (field (.ref it) 0 >>= _) _ _ s
  refine wpAny_bind (wpAny_field ho hd (x := .ref x) rfl ?_)
  rw [if_neg (show ¬ ((Value.ref x == Value.none) = true) from Bool.false_ne_true)]
  refine wpAny_bind (wpAny_field ho hd (x := .int i 0) rfl ?_)
  show wpAny _ _ (seqItems? (.ref x) >>= _) _ _ s
  refine wpAny_bind (wpAny_seqItems hx rfl ?_)
  simp only [Int.toNat_natCast, hv]
  refine wpAny_bind (wpAny_setField ho hd (by simp) (wpAny_pure ⟨v, rfl, wpAny_pure (hQ _ ?_ (Heap.SameBut.update ..))⟩))
  exact ⟨_, Heap.get?_update_self _ ho (Obj.isFreed_of_fields (Obj.data_mapFields hd _)), (Obj.cls_mapFields ..).trans hc, by rw [Obj.data_mapFields hd]; simp [rawInt]⟩
theorem acc_stop {it : Addr} {i : Nat} {Q : Option Value → Shared → Prop} (hh : A.handled = none) (hit : s.heap.IsListIter it x i) (hx : s.heap.get? x = some (accO dx items k)) (hv : items[i]? = none)
    (hQ : ∀ h', Heap.ExtBut it s.heap h' → Q none { s with heap := h' }) : wpAny (model prog w) A (pyNext (.ref it)) Q E s := by
  obtain ⟨o, ho, hc, hd⟩ := id hit
  unfold pyNext
  refine wpAny_bind (wpAny_attempt (wpAny_callSpecial?_slot (name := Str.ofString "__next__") hit.typeIs slot_listiter_next (wpAny_call_entry slot_listiter_next hit.typeIs entry_listiter_next ?_ (args_listiter_next _))))
  show wpAny _ _ (field (.ref it) 0 >>= _) _ _ s
  refine wpAny_bind (wpAny_field ho hd (x := .ref x) rfl ?_)
  rw [if_neg (show ¬ ((Value.ref x == Value.none) = true) from Bool.false_ne_true)]
  refine wpAny_bind (wpAny_field ho hd (x := .int i 0) rfl ?_)
  show wpAny _ _ (seqItems? (.ref x) >>= _) _ _ s
  refine wpAny_bind (wpAny_seqItems hx rfl ?_)
  simp only [Int.toNat_natCast, hv]
  refine wpAny_bind (wpAny_rule (wpAny_bind (wpAny_setField ho hd (by simp) ?_)))
  show wpAny _ _ (newExc (.type "StopIteration") [] >>= _) _ _ _
  refine wpAny_bind ?_
  simp only [newExc, newTuple]
  refine wpAny_bind (wpAny_newObj_type ?_ (by size_fits))
  refine wpAny_bind (m := firstArgMember _ _) (wpAny_of_eq (a := Value.none) (by first | rfl | (simp only [firstArgMember]; rfl)) ?_)
  refine wpAny_newObj_type ?_ (by size_fits)
  simp only [raiseNew]
  refine wpAny_bind (wpAny_handled ?_)
  rw [show A.in1.handled = none from hh]
  refine wpAny_bind (wpAny_pure (wpAny_throw ?_))
  refine wpAny_bind (wpAny_isInstance (T := "StopIteration") (b := true) ⟨_, Heap.get?_push_size _ rfl, rfl⟩ isSubtype_stop ?_)
  exact wpAny_pure (hQ _ (((Heap.SameBut.update ..).extBut.push _).push _))
theorem acc_ifBound {i : String} {name : Str} {refuse : Sem Value} {Q : Option Value → Shared → Prop} {K : Frag} {od : Option Obj} {ox : Obj} {C : Addr} (X : K.In s.heap) (I : InstAt s.heap x ox C od) (hs : findIn K (.ref C) name = some (some (.builtin i)))
    (hb : bindSpecial (.builtin i) (.ref x) = pure (.builtin i, [.ref x])) (h : wpAny (model prog w) A (call (.builtin i) [.ref x]) (fun v => Q (some v)) E s) : wpAny (model prog w) A (callSpecialIfBoundUnlessNone? (.ref x) name refuse) Q E s := by
  simp only [callSpecialIfBoundUnlessNone?, bindSpecialIfBound?]
  refine wpAny_holding (wpAny_bind (wpAny_bind (wpAny_bind (I.type.here ((looks_findIn X hs).here ?_)))))
  refine wpAny_bind (wpAny_askSetting (wpAny_ite ?_))
  have fin : wpAny (model prog w) A (if (Value.builtin i == Value.none) = true then (refuse >>= fun v => pure (some v)) else (call (.builtin i) [.ref x] >>= fun v => pure (some v))) Q E s := by
    rw [if_neg (by simp)]
    exact wpAny_bind (wpAny_mono h (fun v s' h' => wpAny_pure h') fun _ _ h' => h')
  rw [hb]
  split
  · exact wpAny_bind (wpAny_pure (wpAny_pure fin))
  · exact wpAny_tryCatch (wpAny_bind (wpAny_pure (wpAny_pure fin)))

theorem iter_body {Q : PySem.Fin → Shared → Prop} (h : Q (.done (.ret (.ref s.heap.objs.size))) { s with heap := s.heap.push { cls := .type "list_iterator", data := .fields #[.ref x, .int 0 0] } }) : wpAny (model prog w) A (Builtin.«list.__iter__» ⟨[.ref x], []⟩) Q E s := by
  show wpAny _ _ (do ret (← newFields "list_iterator" [.ref x, rawInt 0])) _ _ s
  exact wpAny_bind (wpAny_newObj_type (wpAny_pure h))
theorem acc_iter {Q : Value → Shared → Prop} (F : Fr h₀ L s.heap m) (X : (hd.heap_39 w.params).In h₀) (N : News h₀ L s.heap news) (hx : (x, accO dx items k) ∈ news) (hdx : (dx, osz) ∈ news)
    (h : Q (.ref s.heap.objs.size) { s with heap := s.heap.push { cls := .type "list_iterator", data := .fields #[.ref x, .int 0 0] } }) : wpAny (model prog w) A (pyIter (.ref x)) Q E s := by
  have X' := X.keeps F.keep
  have I := acc_inst N hx hdx
  have hf : findIn (hd.heap_39 w.params) (.ref 114) "__iter__" = some (some (.builtin "list.__iter__")) := by k_is
  unfold pyIter
  refine wpAny_bind (wpAny_bind (I.type.here ((looks_findIn X' hf).here ?_)))
  show wpAny _ A (callSpecialIfBoundUnlessNone? (.ref x) "__iter__" _ >>= _) Q E s
  refine wpAny_bind (acc_ifBound X' I hf (slot_list_iter.bind _) ?_)
  refine acc_slot (owner := "list") (n := "__iter__") X' I (by k_is) (by decide +kernel) (by decide +kernel) (args_list_iter _) entry_list_iter (by decide +kernel) (iter_body ⟨_, rfl, ?_⟩)
  exact wpAny_bind (wpAny_specialOf (T := "list_iterator") (show Shared.TypeIs _ (.ref s.heap.objs.size) "list_iterator" from ⟨_, Heap.get?_push_size _ rfl, rfl⟩) slot_listiter_next.lookup (wpAny_pure h))

end
section
variable {prog : Program} {w : World} {A : Around} {E : Value → Shared → Prop} {s : Shared} {h₀ : Heap} {L : Addr} {m : Str → Option Value} {news : Led} {elts : List Expr} {tk : Nat} {tp : Pos}
theorem src_enum {l : Addr} {vs : List Value} {Q : Value → Shared → Prop} (hh : A.handled = none) (F : Fr h₀ L s.heap m) (N : News h₀ L s.heap news) (hl0 : h₀.IsList l vs.toArray)
    (h : ∀ lim I J h', SrcOk prog w A (.Tuple elts tk tp) h₀ lim h' I [(I, "enumerate"), (J, "list_iterator")] [] vs.length (fun i v h => ∃ T t x, v = .ref T ∧ vs[i]? = some x ∧ IsTup h T #[.int (i : Int) t, x]) → Fr h₀ L h' m → News h₀ L h' news → L < lim → (∀ p ∈ news, p.1 < lim) → Q (.ref I) { s with heap := h' }) :
    wpAny (model prog w) A (call (.type "enumerate") [.ref l]) (fun xv s₁ => wpAny (model prog w) A (pyIter xv) Q E s₁) E s := by
  have hl : s.heap.IsList l vs.toArray := hl0.at fun o e => F.keep l o e
  have hlt : l < s.heap.objs.size := by obtain ⟨o, e, _⟩ := hl; exact Heap.lt_size e
  obtain ⟨lo, hlo, _⟩ := hl0
  refine call_enumerate_list hl fun h' hE hI hsz hk => ?_
  refine wpAny_pyIter_enum hE (h s.heap.objs.size _ s.heap.objs.size _ ?_ (F.keeps hk) (N.grown hk) F.ns.lt fun p hp => Heap.lt_size (N p hp).1)
  have W := (WalksT.enumerate (prog := prog) (w := w) hh (s.heap.objs.size + 1) s.heap.objs.size l (Nat.succ_ne_self _) (ktu_ne 1 hlt) (Nat.ne_of_lt hlt) vs.toArray)
  have U := W.toU
  have K := KTurns.ofWalksU (elts := elts) (k := tk) (pos := tp) U
  rw [show vs.toArray.size = vs.length by simp] at K
  have hP : ∀ (i : Nat) v h, (∃ T vals, v = Value.ref T ∧ (∃ t x, vs.toArray[i]? = some x ∧ vals = #[.int (i : Int) t, x]) ∧ h.IsTuple T vals) → ∃ T t x, v = .ref T ∧ vs[i]? = some x ∧ IsTup h T #[.int (i : Int) t, x] := by
    rintro i v h ⟨T, vals, rfl, ⟨t, x, hx, rfl⟩, hT⟩
    exact ⟨T, t, x, rfl, by simpa using hx, hT⟩
  refine ⟨_, _, _, _, { sub := K.sub, frame := K.frame, item := K.item, done := K.done, go := fun i v s Q E hm hQ => K.go i v s Q E hm fun h' hp st hk => hQ h' (hP i v h' hp) st hk }, ⟨⟨.none, hE⟩, hI, hl.at fun o e => hk l o e⟩, ?_, ?_, ?_, ?_, W.self⟩
  · rintro i h ⟨⟨old, he⟩, ⟨oi, hoi, hic, _⟩, _⟩
    have he' : ∃ oe : Obj, h.get? (s.heap.objs.size + 1) = some oe ∧ oe.cls = .type "enumerate" := ⟨_, he, rfl⟩
    obtain ⟨oe, h1, h2⟩ := he'
    refine ⟨[(s.heap.objs.size + 1, oe), (s.heap.objs.size, oi)], ⟨⟨rfl, h2⟩, ⟨rfl, hic⟩, trivial⟩, fun p hp => ?_⟩
    rcases List.mem_cons.mp hp with rfl | hp
    · exact h1
    · rw [List.mem_singleton.mp hp]; exact hoi
  · intro b hb
    have hb' : b = s.heap.objs.size + 1 ∨ b = s.heap.objs.size := by simpa using hb
    rcases hb' with rfl | rfl
    · exact ⟨by simp, Nat.le_succ _⟩
    · exact ⟨by simp, Nat.le_refl _⟩
  · intro b hb; simpa using hb
  · intro b hb
    have hb' : b = s.heap.objs.size + 1 ∨ b = s.heap.objs.size ∨ b = l := by simpa using hb
    rcases hb' with rfl | rfl | rfl
    · exact .inl (by simp)
    · exact .inl (by simp)
    · exact .inr (.inr ⟨lo, hlo⟩)

theorem src_zip {l1 l2 : Addr} {lo1 lo2 : Obj} {xs ys : List Value} {n1 n2 : Nat} {Q : Value → Shared → Prop}
    (hh : A.handled = none) (F : Fr h₀ L s.heap m) (N : News h₀ L s.heap news) (hm1 : (l1, lo1) ∈ news) (hc1 : lo1.cls = .type "list") (hd1 : lo1.data = .seq xs.toArray n1) (hm2 : (l2, lo2) ∈ news) (hc2 : lo2.cls = .type "list") (hd2 : lo2.data = .seq ys.toArray n2)
    (h : ∀ lim h', SrcOk prog w A (.Tuple elts tk tp) h₀ lim h' (lim + 4) [(lim + 4, "zip"), (lim + 2, "tuple"), (lim + 3, "tuple"), (lim, "list_iterator"), (lim + 1, "list_iterator")] [(l1, lo1), (l2, lo2)] (min xs.length ys.length)
        (fun i v h => ∃ T x y, v = .ref T ∧ xs[i]? = some x ∧ ys[i]? = some y ∧ IsTup h T #[x, y]) → Fr h₀ L h' m → News h₀ L h' news → L < lim → (∀ p ∈ news, p.1 < lim) → Q (.ref (lim + 4)) { s with heap := h' }) :
    wpAny (model prog w) A (call (.type "zip") [.ref l1, .ref l2]) (fun xv s₁ => wpAny (model prog w) A (pyIter xv) Q E s₁) E s := by
  have hax1 := N _ hm1
  have hax2 := N _ hm2
  have hl1 : s.heap.IsList l1 xs.toArray := ⟨lo1, hax1.1, hc1, n1, hd1⟩
  have hl2 : s.heap.IsList l2 ys.toArray := ⟨lo2, hax2.1, hc2, n2, hd2⟩
  have hlt1 : l1 < s.heap.objs.size := Heap.lt_size hax1.1
  have hlt2 : l2 < s.heap.objs.size := Heap.lt_size hax2.1
  have D : ZipApart (s.heap.objs.size + 4) (s.heap.objs.size + 2) (s.heap.objs.size + 3) s.heap.objs.size (s.heap.objs.size + 1) l1 l2 := ktu_apart _ _ _ hlt1 hlt2
  refine call_zip_2 hl1 hl2 fun h' hz hTI hTO hi1 hi2 hsz hk => ?_
  refine wpAny_pyIter_zip hz (h s.heap.objs.size _ ?_ (F.keeps hk) (N.grown hk) F.ns.lt fun p hp => Heap.lt_size (N p hp).1)
  have W := WalksT.zip2 (prog := prog) (w := w) hh _ _ _ _ _ _ _ D xs.toArray ys.toArray
  have K := KTurns.ofWalksU (elts := elts) (k := tk) (pos := tp) W.toU
  rw [show min xs.toArray.size ys.toArray.size = min xs.length ys.length by simp] at K
  refine ⟨_, _, _, _, { sub := K.sub, frame := K.frame, item := K.item, done := K.done, go := fun i v s Q E hm hQ => K.go i v s Q E hm fun h' hp st hk => hQ h' ?_ st hk }, ⟨hz, hTI, ⟨_, _, hTO⟩, hi1, hi2, hl1.at fun o e => hk l1 o e, hl2.at fun o e => hk l2 o e⟩, ?_, ?_, ?_, ?_, W.self⟩
  · obtain ⟨T, vals, rfl, ⟨x, y, hx, hy, rfl⟩, hT⟩ := hp
    exact ⟨T, x, y, rfl, by simpa using hx, by simpa using hy, hT⟩
  · rintro i h ⟨hz, hTI, ⟨a, b, hTO⟩, ⟨o1, ho1, hc1, _⟩, ⟨o2, ho2, hc2, _⟩, _⟩
    have e1 : ∃ o : Obj, h.get? (s.heap.objs.size + 4) = some o ∧ o.cls = .type "zip" := ⟨_, hz, rfl⟩
    have e2 : ∃ o : Obj, h.get? (s.heap.objs.size + 2) = some o ∧ o.cls = .type "tuple" := ⟨_, hTI, rfl⟩
    have e3 : ∃ o : Obj, h.get? (s.heap.objs.size + 3) = some o ∧ o.cls = .type "tuple" := ⟨_, hTO, rfl⟩
    obtain ⟨q1, g1, k1⟩ := e1
    obtain ⟨q2, g2, k2⟩ := e2
    obtain ⟨q3, g3, k3⟩ := e3
    refine ⟨[(s.heap.objs.size + 4, q1), (s.heap.objs.size + 2, q2), (s.heap.objs.size + 3, q3), (s.heap.objs.size, o1), (s.heap.objs.size + 1, o2)], ⟨⟨rfl, k1⟩, ⟨rfl, k2⟩, ⟨rfl, k3⟩, ⟨rfl, hc1⟩, ⟨rfl, hc2⟩, trivial⟩, fun p hp => ?_⟩
    simp only [List.mem_cons, List.not_mem_nil, or_false] at hp
    rcases hp with rfl | rfl | rfl | rfl | rfl <;> assumption
  · intro b hb
    have hb' : b = s.heap.objs.size + 4 ∨ b = s.heap.objs.size + 2 ∨ b = s.heap.objs.size + 3 ∨ b = s.heap.objs.size ∨ b = s.heap.objs.size + 1 := by simpa using hb
    rcases hb' with rfl | rfl | rfl | rfl | rfl <;> exact ⟨by simp, by first | exact Nat.le_refl _ | exact Nat.le_add_right _ _⟩
  · intro b hb
    have hb' : b = s.heap.objs.size + 4 ∨ b = s.heap.objs.size + 3 ∨ b = s.heap.objs.size ∨ b = s.heap.objs.size + 1 := by simpa using hb
    rcases hb' with rfl | rfl | rfl | rfl <;> simp
  · intro b hb
    have hb' : b = s.heap.objs.size + 4 ∨ b = s.heap.objs.size + 2 ∨ b = s.heap.objs.size + 3 ∨ b = s.heap.objs.size ∨ b = s.heap.objs.size + 1 ∨ b = l1 ∨ b = l2 := by simpa using hb
    rcases hb' with rfl | rfl | rfl | rfl | rfl | rfl | rfl
    · exact .inl (by simp)
    · exact .inl (by simp)
    · exact .inl (by simp)
    · exact .inl (by simp)
    · exact .inl (by simp)
    · exact .inr (.inl ⟨lo1, by simp⟩)
    · exact .inr (.inl ⟨lo2, by simp⟩)
end
/-! a list comprehension of one clause over any source -/
inductive LcEnd (h₀ : Heap) (L : Addr) (m : Str → Option Value) (s₁ : Shared) (need news : Led) (J : Led → Prop) (s' : Shared) : Prop
  | mk (h' : Heap) (tk : Nat) (nw' : Led) (_ : s' = { s₁ with heap := h', toks := tk }) (_ : Fr h₀ L h' m) (_ : News h₀ L h' nw') (_ : ∀ p ∈ need, p ∈ nw') (_ : Keep [] news nw') (_ : J nw')
abbrev lcTests (ifs : List PySem.Expr) (env : Env) : Sem Bool := forIn ifs true fun c r => if r = true then do let ok ← isTrue c env (eval c env); pure (ForInStep.yield ok) else pure (ForInStep.yield r)
theorem comp_turn1 (elt target iter : PySem.Expr) (ifs : List PySem.Expr) (scope : Scope) (pos : Pos) (it acc : Value) (env : Env) :
    compTurn (.ListComp elt [⟨target, iter, ifs, 0⟩] scope pos) 0 it acc env = (do
      standAt iter.pos
      match ← pyNext it with
      | none => pure (.done .next)
      | some v =>
        letOwnedTupleGo target it v
        assign target env v
        let ok ← lcTests ifs env
        if ok then
          (do let _ ← call (.builtin "list.append") [acc, ← eval elt env])
        again (.compLoop (.ListComp elt [⟨target, iter, ifs, 0⟩] scope pos) 0 it acc env)) := by rfl
abbrev lcObj (ys : List Value) : Obj := listOf ys.toArray ys.length
theorem lcObj_push (ys : List Value) (y : Value) : ({ cls := .type "list", data := .seq (ys.toArray.push y) (ys.length + 1) } : Obj) = lcObj (ys ++ [y]) := by
  unfold lcObj
  rw [List.length_append, List.length_singleton, List.push_toArray]

section
variable {prog : Program} {w : World} {A : Around} {E : Value → Shared → Prop} {s : Shared} {h₀ : Heap} {L : Addr} {m : Str → Option Value} {env : Env} {target elt iter : PySem.Expr} {ifs : List PySem.Expr} {scope : Scope} {cl : List (Str × Addr)} {pos : Pos} {news : Led}
inductive LbInv (St : Nat → Heap → Prop) (h₀ : Heap) (L : Addr) (m : Str → Option Value) (C D : Addr) (off : Addr × Obj → Bool) (news : Led) (J : Nat → List Value → Led → Prop) (i : Nat) (h' : Heap) (ys : List Value) (m' : Str → Option Value) (nw : Led) : Prop
  | mk (_ : ys.length ≤ i) (_ : St i h') (_ : Fr h₀ L h' m) (_ : h'.Ns C m') (_ : News h₀ L h' ((D, lcObj ys) :: nw)) (_ : ∀ p ∈ nw, off p = true) (_ : Keep [] news nw) (_ : J i ys nw)
inductive LbJ (Inv : Nat → Heap → List Value → (Str → Option Value) → Led → Prop) (s : Shared) (n k : Nat) (s' : Shared) : Prop
  | mk (h' : Heap) (tk i : Nat) (ys : List Value) (m' : Str → Option Value) (nw : Led) (_ : s' = { s with heap := h', toks := tk }) (_ : i ≤ n) (_ : k = n + 1 - i) (_ : Inv i h' ys m' nw)
theorem lc_block {lim I : Addr} {ws : List (Addr × String)} {keep : Led} {n : Nat} {P : Nat → Value → Heap → Prop} {RR : Value → Addr → Result → Shared → Prop}
    (S : SrcOk prog w A target h₀ lim s.heap I ws keep n P) (F : Fr h₀ L s.heap m) (N : News h₀ L s.heap news) (hL : L < lim) (hlim : ∀ p ∈ news, p.1 < lim) (hkeep : ∀ p ∈ keep, p ∈ news) (hsz : n ≤ sizeLine) (hwne : ws ≠ [])
    (hcell : ∀ y ∈ scope.names, y.2 ≠ .cell) (hkind : scope.kind = .function)
    (B : Nat → (Str → Option Value) → Prop)
    (hasg : ∀ i v C (s₁ : Shared) m₃ (Q : Unit → Shared → Prop) (E : Value → Shared → Prop), i < n → P i v s₁.heap → (∀ p ∈ news, s₁.heap.get? p.1 = some p.2) → s₁.heap.Ns C m₃ →
      (∀ h' tk m₄, h'.Ns C m₄ → B i m₄ → (∀ b o, b ≠ C → s₁.heap.get? b = some o → h'.get? b = some o) → Q () { s₁ with heap := h', toks := tk }) → wpAny (model prog w) A (assign target (compEnvC scope cl C env) v) Q E s₁)
    (kp : Addr × Obj → Prop) (hkp : ∀ p, kp p → p.2.cls = .type "tuple" ∧ ∀ v ∈ ws, v.2 ≠ "tuple") (hkpd : ∀ p, kp p → ∀ es ep, p.2.data ≠ .dict es ep)
    (J : Nat → List Value → Led → Prop) (J0 : J 0 [] news) (hm : ∀ i ys nw nw', J i ys nw → (∀ p ∈ nw, kp p → p ∈ nw') → J i ys nw')
    (turn : ∀ i ys nw m₂ C oC D h tk (E' : Value → Shared → Prop), i < n → B i m₂ → J i ys nw → Keep [] news nw → LCg.NsObj oC m₂ → Fr h₀ L h m → AllObj ws (fun its => News h₀ L h (its ++ (C, oC) :: (D, lcObj ys) :: nw) →
      wpAny (model prog w) A (lcTests ifs (compEnvC scope cl C env)) (fun ok s' => if ok = true then wpAny (model prog w) A (eval elt (compEnvC scope cl C env)) (fun y => LcEnd h₀ L m { s with heap := h, toks := tk } (its ++ [(C, oC), (D, lcObj ys)]) news (J (i + 1) (ys ++ [y]))) E' s'
        else LcEnd h₀ L m { s with heap := h, toks := tk } (its ++ [(C, oC), (D, lcObj ys)]) news (J (i + 1) ys) s') E' { s with heap := h, toks := tk }))
    (hRR : ∀ D C h tk m' ys nw, Fr h₀ L h m → News h₀ L h ((D, lcObj ys) :: nw) → lim ≤ D → h.Ns C m' → h₀.get? C = none → C ≠ L → C ≠ D → (∀ p ∈ nw, p.1 ≠ C) → Keep [] news nw → J n ys nw → RR (.ref D) C (.ok .next) { s with heap := h, toks := tk }) :
    wpAny (model prog w) A (newList []) (fun acc s₃ => wpAny (model prog w) A (newFunctionEnv scope env.globals cl [] env.qual none .none (some env)) (fun cenv s₄ =>
      codeAny (model prog w) A (.compStart (.ListComp elt [⟨target, iter, ifs, 0⟩] scope pos) 0 (.ref I) acc { cenv with scope := relabel scope env }) (RR acc cenv.locals) s₄) E s₃) E s := by
  obtain ⟨fp, wr, Md, St, W, st0, hobj, hws, hwr, hfp, hself⟩ := S
  have hL₀ : h₀.get? L = none := Heap.get?_none_of_le F.above
  have old₀ : ∀ b, lim ≤ b → h₀.get? b = none := fun b hb => Heap.get?_none_of_le (Nat.le_trans F.above (Nat.le_trans (Nat.le_of_lt hL) hb))
  obtain ⟨its0, hits0, hval0⟩ := hobj 0 _ st0
  have wslt : ∀ b ∈ ws.map (·.1), b < s.heap.objs.size := fun b hb => by obtain ⟨o, ho⟩ := objs_of hits0 hb; exact Heap.lt_size (hval0 _ ho)
  have fplt : ∀ b ∈ fp, b < s.heap.objs.size := fun b hb => by
    rcases hfp b hb with h | ⟨o, h⟩ | ⟨o, h⟩
    · exact wslt b h
    · exact Heap.lt_size (N _ (hkeep _ h)).1
    · exact Heap.lt_size (F.keep _ _ h)
  refine wpAny_newObj_type (wpAny_newFunctionEnv hcell (by intro y hy; simp at hy) (fun h₁ hns₁ hsb₁ => ?_) hkind)
  dsimp only at hns₁ hsb₁ ⊢
  generalize hH2 : s.heap.push { cls := .type "list", dict := none, data := .seq ([] : List Value).toArray } = H2 at hns₁ hsb₁ ⊢
  have hC : H2.objs.size = s.heap.objs.size + 1 := by rw [← hH2, Heap.size_push]
  generalize hDn : s.heap.objs.size = D at *
  generalize hCn : H2.objs.size = C at *
  have hDC : D ≠ C := by rw [hC]; exact Nat.ne_of_lt (Nat.lt_succ_self _)
  have below : ∀ b, b < D → b ≠ C ∧ b ≠ D := fun b hb => ⟨by rw [hC]; exact Nat.ne_of_lt (Nat.lt_succ_of_lt hb), Nat.ne_of_lt hb⟩
  have limD : lim ≤ D := by
    cases ws with
    | nil => exact absurd rfl hwne
    | cons u r => exact Nat.le_trans (hws u.1 (by simp)).2 (Nat.le_of_lt (wslt u.1 (by simp)))
  have limC : lim ≤ C := by rw [hC]; exact Nat.le_trans limD (Nat.le_succ _)
  have hDf : D ∉ fp := fun hm => Nat.lt_irrefl _ (fplt _ hm)
  have hCf : C ∉ fp := fun hm => by have := fplt _ hm; rw [hC] at this; exact Nat.lt_irrefl _ (Nat.lt_of_succ_lt this)
  have old : ∀ b o, s.heap.get? b = some o → h₁.get? b = some o := fun b o e => hsb₁.extBut b o (below b (hDn ▸ Heap.lt_size e)).1 (Heap.get?_push_of_some _ (hH2 ▸ Heap.get?_push_of_some _ e))
  have hacc : h₁.get? D = some (lcObj []) := hsb₁.extBut _ _ hDC (Heap.get?_push_of_some _ (hH2 ▸ hDn ▸ Heap.get?_push_size _ rfl))
  have hst₁ : St 0 h₁ := W.frame _ _ _ st0 fun b _ o e => old b o e
  have hD₀ : h₀.get? D = none := old₀ _ limD
  have hC₀ : h₀.get? C = none := old₀ _ limC
  have hDL : D ≠ L := fun e => Nat.lt_irrefl _ (Nat.lt_of_lt_of_le hL (e ▸ limD))
  have hCL : C ≠ L := fun e => Nat.lt_irrefl _ (Nat.lt_of_lt_of_le hL (e ▸ limC))
  have offw : ∀ p ∈ news, p.1 ∉ ws.map (·.1) ∧ p.1 ≠ C ∧ p.1 ≠ D := fun p hp => ⟨fun hw => Nat.lt_irrefl _ (Nat.lt_of_lt_of_le (hlim p hp) (hws _ hw).2), fun e => Nat.lt_irrefl _ (Nat.lt_of_lt_of_le (hlim p hp) (e ▸ limC)), fun e => Nat.lt_irrefl _ (Nat.lt_of_lt_of_le (hlim p hp) (e ▸ limD))⟩
  have wsne : ∀ b ∈ ws.map (·.1), b ≠ C ∧ b ≠ D ∧ b ≠ L := fun b hb => ⟨(below b (wslt b hb)).1, (below b (wslt b hb)).2, fun e => Nat.lt_irrefl _ (Nat.lt_of_lt_of_le hL (e ▸ (hws b hb).2))⟩
  let off : Addr × Obj → Bool := fun p => decide (p.1 ∉ ws.map (·.1) ∧ p.1 ≠ C ∧ p.1 ≠ D)
  let Inv : Nat → Heap → List Value → (Str → Option Value) → Led → Prop := LbInv St h₀ L m C D off news J
  have loop : ∀ s₃ : Shared, s₃ = { s with heap := h₁, toks := s.toks + ([] : List (Str × Value)).length } →
      codeAny (model prog w) A (.compLoop (.ListComp elt [⟨target, iter, ifs, 0⟩] scope pos) 0 (.ref I) (.ref D) (compEnvC scope cl C env)) (RR (.ref D) C) s₃ := by
    rintro s₃ rfl
    refine codeAny_loop rfl (LbJ Inv s n) (fun k s' hI => ?_) (n + 1)
      ⟨h₁, _, 0, [], _, news, rfl, Nat.zero_le _, rfl, Nat.le_refl _, hst₁, F.keeps old, hns₁, ?_, fun p hp => decide_eq_true (offw p hp), Keep.rfl', J0⟩
    · obtain ⟨h', tk, i, ys, m', nw, rfl, hi, rfl, hyl, hst', F', hn', N', off', K', hJ⟩ := hI
      show wpAny _ A ((compTurn (.ListComp elt [⟨target, iter, ifs, 0⟩] scope pos) 0 (.ref I) (.ref D) (compEnvC scope cl C env)).onRaise (fun x => do noteFrame x (compEnvC scope cl C env); theTreesLotGoes x)) _ _ _
      refine wpAny_noted ?_
      rw [comp_turn1]
      refine wpAny_bind (wpAny_standAt (wpAny_bind ?_))
      have offp := fun p hp => of_decide_eq_true (off' p hp)
      have wrne : ∀ b, b ∉ ws.map (·.1) → b ∉ wr := fun b hb hw => hb (hwr b hw)
      have step : ∀ h₂ : Heap, (∀ b o, b ∉ wr → h'.get? b = some o → h₂.get? b = some o) → Fr h₀ L h₂ m ∧ h₂.Ns C m' ∧ News h₀ L h₂ ((D, lcObj ys) :: nw) := fun h₂ hk => by
        refine ⟨⟨F'.ns.at' fun o e => hk _ o (wrne _ fun hw => (wsne _ hw).2.2 rfl) e, fun b o e => hk b o (fun hw => ?_) (F'.keep b o e), F'.above⟩, hn'.at' fun o e => hk _ o (wrne _ fun hw => (wsne _ hw).1 rfl) e, fun p hp => ⟨hk _ _ (wrne _ ?_) (N' p hp).1, (N' p hp).2⟩⟩
        · rw [old₀ _ (hws _ (hwr _ hw)).2] at e; cases e
        · rcases List.mem_cons.mp hp with rfl | hp
          · exact fun hw => (wsne _ hw).2.1 rfl
          · exact (offp p hp).1
      by_cases hlt : i < n
      · refine W.item i _ _ _ hlt hst' fun v h₂ tk₂ hMd hk₂ => ?_
        refine wpAny_bind (W.go i v _ _ _ hMd fun h₃ hP hst₃ hk₃ => ?_)
        obtain ⟨F₃, n₃, N₃⟩ := step h₃ fun b o hb e => hk₃ b o hb (hk₂ b o hb e)
        refine wpAny_bind (hasg i v C _ m' _ _ hlt hP (fun p hp => (N₃ _ (List.mem_cons_of_mem _ (K'.mem0 hp))).1) n₃ fun h₄ tk₄ m₄ hn₄ hB₄ hk₄ => ?_)
        have hst₄ : St (i + 1) h₄ := W.frame _ _ _ hst₃ fun b hb o e => hk₄ b o (fun q => hCf (q ▸ hb)) e
        obtain ⟨its, hits, hval⟩ := hobj (i + 1) h₄ hst₄
        obtain ⟨oC, heC, hoC⟩ := LCg.ns_obj hn₄
        have F₄ : Fr h₀ L h₄ m := ⟨F₃.ns.at' fun o e => hk₄ _ o (Ne.symm hCL) e, fun b o e => hk₄ b o (fun q => by rw [q, hC₀] at e; cases e) (F₃.keep b o e), F₃.above⟩
        have N₄ : News h₀ L h₄ (its ++ (C, oC) :: (D, lcObj ys) :: nw) := fun p hp => by
          rcases List.mem_append.mp hp with hp | hp
          · have h1 : p.1 ∈ ws.map (·.1) := by rw [← hits.map]; exact List.mem_map_of_mem hp
            exact ⟨hval p hp, (wsne _ h1).2.2, old₀ _ (hws _ h1).2⟩
          · rcases List.mem_cons.mp hp with rfl | hp
            · exact ⟨heC, hCL, hC₀⟩
            · refine ⟨hk₄ _ _ ?_ (N₃ p hp).1, (N₃ p hp).2⟩
              rcases List.mem_cons.mp hp with rfl | hp
              · exact hDC
              · exact (offp p hp).2.1
        have fin : ∀ (zs : List Value) (s₅ : Shared) (c : Heap → Heap → Prop), zs.length ≤ i + 1 → LcEnd h₀ L m { s with heap := h₄, toks := tk₄ } (its ++ [(C, oC), (D, lcObj ys)]) news (J (i + 1) zs) s₅ →
            ∃ h₅ tk₅ nw₅, s₅ = { s with heap := h₅, toks := tk₅ } ∧ h₅.get? D = some (lcObj ys) ∧ ∀ h₆, Heap.ExtBut D h₅ h₆ → (Heap.SameBut D h₅ h₆ ∨ h₆ = h₅) → h₆.get? D = some (lcObj zs) → ∃ m₆, Inv (i + 1) h₆ zs m₆ nw₅ := by
          rintro zs s₅ c hzl ⟨h₅, tk₅, nw₅, rfl, F₅, N₅, hn₅, K₅, J₅⟩
          refine ⟨h₅, tk₅, nw₅.filter off, rfl, (N₅ (D, lcObj ys) (hn₅ _ (by simp))).1, fun h₆ hs₆ hs₆' hD₆ => ⟨m₄, hzl, ?_, ?_, ?_, ?_, fun p hp => (List.mem_filter.mp hp).2, fun p hp hx => List.mem_filter.mpr ⟨K₅ p hp hx, decide_eq_true (offw p hp)⟩, ?_⟩⟩
          · refine W.frame _ _ _ hst₄ fun b hb o e => hs₆ b o (fun q => hDf (q ▸ hb)) ?_
            rcases hfp b hb with h3 | ⟨o', h3⟩ | ⟨o', h3⟩
            · obtain ⟨o', h4⟩ := objs_of hits h3
              have h5 := hval _ h4
              rw [e] at h5; cases h5
              exact (N₅ _ (hn₅ _ (List.mem_append_left _ h4))).1
            · have h4 := (N₄ _ (List.mem_append_right _ (List.mem_cons_of_mem _ (List.mem_cons_of_mem _ (K'.mem0 (hkeep _ h3)))))).1
              rw [e] at h4; cases h4
              exact (N₅ _ (K₅.mem0 (hkeep _ h3))).1
            · have h4 := F₄.keep _ _ h3
              rw [e] at h4; cases h4
              exact F₅.keep _ _ h3
          · rcases hs₆' with hs | rfl
            · exact F₅.change hs hDL hD₀
            · exact F₅
          · have z := (N₅ _ (hn₅ (C, oC) (by simp))).1
            exact hoC.ns (hs₆ _ _ (Ne.symm hDC) z)
          · intro p hp
            rcases List.mem_cons.mp hp with rfl | hp
            · exact ⟨hD₆, hDL, hD₀⟩
            · obtain ⟨hp, ho⟩ := List.mem_filter.mp hp
              exact ⟨hs₆ _ _ (of_decide_eq_true ho).2.2 (N₅ p hp).1, (N₅ p hp).2⟩
          · refine hm _ _ _ _ J₅ fun p hp hk => List.mem_filter.mpr ⟨hp, decide_eq_true ⟨fun hw => ?_, fun e => ?_, fun e => ?_⟩⟩
            · obtain ⟨o, ho⟩ := objs_of hits hw
              have e1 := (N₅ _ hp).1
              have e2 := (N₅ _ (hn₅ _ (List.mem_append_left _ ho))).1
              rw [e1] at e2
              have e3 : p.2 = o := Option.some.inj e2
              obtain ⟨u, hu, e4, e5⟩ := objs_cls hits _ ho
              obtain ⟨k1, k2⟩ := hkp p hk
              rw [e3] at k1
              have e6 : Value.type "tuple" = .type u.2 := k1.symm.trans e5
              exact k2 u hu (Value.type.inj e6).symm
            · have e1 := (N₅ _ hp).1
              have e2 := (N₅ _ (hn₅ (C, oC) (by simp))).1
              rw [e] at e1
              have e3 : p.2 = oC := Option.some.inj (e1.symm.trans e2)
              obtain ⟨es, ep, hd, _⟩ := hoC
              exact hkpd p hk es ep (e3 ▸ hd)
            · have e1 := (N₅ _ hp).1
              have e2 := (N₅ _ (hn₅ (D, lcObj ys) (by simp))).1
              rw [e] at e1
              have e3 : p.2 = lcObj ys := Option.some.inj (e1.symm.trans e2)
              obtain ⟨k1, _⟩ := hkp p hk
              rw [e3] at k1
              have k2 : Value.type "list" = .type "tuple" := k1
              exact absurd (Value.type.inj k2) (by decide)
        refine wpAny_bind (wpAny_mono ((turn i ys nw m₄ C oC D h₄ tk₄ _ hlt hB₄ hJ K' hoC F₄).at hits N₄) (fun ok s₅ h₅ => ?_) fun _ _ e => e)
        cases ok with
        | false =>
          obtain ⟨h₇, tk₅, nw₅, rfl, hD₅, fin'⟩ := fin ys s₅ (fun _ _ => True) (Nat.le_succ_of_le hyl) h₅
          obtain ⟨m₆, I₆⟩ := fin' h₇ (fun _ _ _ e => e) (.inr rfl) hD₅
          exact wpAny_pure ⟨rfl, n + 1 - (i + 1), by omega, h₇, tk₅, i + 1, ys, m₆, nw₅, rfl, hlt, rfl, I₆⟩
        | true =>
          refine wpAny_bind (wpAny_bind (wpAny_mono h₅ (fun y s₆ h₆ => ?_) fun _ _ e => e))
          obtain ⟨h₇, tk₇, nw₇, rfl, hD₇, fin'⟩ := fin (ys ++ [y]) s₆ (fun _ _ => True) (by simpa using hyl) h₆
          refine wpAny_bind (append_at (hsz := by show ys.toArray.size ≤ sizeLine; rw [List.size_toArray]; exact Nat.le_trans hyl (Nat.le_trans hi hsz)) hD₇ fun h₈ hs₈ hD₈ => ?_)
          obtain ⟨m₆, I₆⟩ := fin' h₈ hs₈.extBut (.inl hs₈) (hD₈.trans (congrArg some (lcObj_push ys y)))
          exact wpAny_pure (wpAny_pure ⟨rfl, n + 1 - (i + 1), by omega, h₈, tk₇, i + 1, ys ++ [y], m₆, nw₇, rfl, hlt, rfl, I₆⟩)
      · obtain rfl : i = n := Nat.le_antisymm hi (Nat.not_lt.mp hlt)
        refine W.done _ _ _ hst' fun h₂ tk₂ hk₂ => ?_
        obtain ⟨F₂, n₂, N₂⟩ := step h₂ hk₂
        exact wpAny_pure (hRR D C h₂ tk₂ m' ys nw F₂ N₂ limD n₂ hC₀ hCL (Ne.symm hDC) (fun p hp => (offp p hp).2.1) K' hJ)
    · intro p hp
      rcases List.mem_cons.mp hp with rfl | hp
      · exact ⟨hacc, hDL, hD₀⟩
      · exact ⟨old _ _ (N p hp).1, (N p hp).2⟩
  exact codeAny_compStart_list (loop _ rfl) (hself 0 _ _ _ hst₁ (loop _ rfl))
end
inductive LcAt (prog : Program) (w : World) (A : Around) (h₀ : Heap) (L : Addr) (m : Str → Option Value) (env : Env) (target : PySem.Expr) (ifs : List PySem.Expr) (elt : PySem.Expr) (scope : Scope) (cl : List (Str × Addr)) (Fin : Addr → Led → Shared → Prop) (it : Value) (s : Shared) : Prop
  | mk (lim I : Addr) (ws : List (Addr × String)) (keep : Led) (n : Nat) (P : Nat → Value → Heap → Prop) (news : Led) (_ : it = .ref I) (_ : SrcOk prog w A target h₀ lim s.heap I ws keep n P) (_ : Fr h₀ L s.heap m) (_ : News h₀ L s.heap news) (_ : L < lim) (_ : ∀ p ∈ news, p.1 < lim) (_ : ∀ p ∈ keep, p ∈ news) (_ : n ≤ sizeLine) (_ : ws ≠ [])
    (B : Nat → (Str → Option Value) → Prop) (kp : Addr × Obj → Prop) (J : Nat → List Value → Led → Prop)
    (_ : ∀ i v C (s₁ : Shared) m₃ (Q : Unit → Shared → Prop) (E : Value → Shared → Prop), i < n → P i v s₁.heap → (∀ p ∈ news, s₁.heap.get? p.1 = some p.2) → s₁.heap.Ns C m₃ →
      (∀ h' tk m₄, h'.Ns C m₄ → B i m₄ → (∀ b o, b ≠ C → s₁.heap.get? b = some o → h'.get? b = some o) → Q () { s₁ with heap := h', toks := tk }) → wpAny (model prog w) A (assign target (compEnvC scope cl C env) v) Q E s₁)
    (_ : ∀ p, kp p → p.2.cls = .type "tuple" ∧ ∀ v ∈ ws, v.2 ≠ "tuple") (_ : ∀ p, kp p → ∀ es ep, p.2.data ≠ .dict es ep) (_ : J 0 [] news) (_ : ∀ i ys nw nw', J i ys nw → (∀ p ∈ nw, kp p → p ∈ nw') → J i ys nw')
    (_ : ∀ i ys nw m₂ C oC D h tk (E' : Value → Shared → Prop), i < n → B i m₂ → J i ys nw → Keep [] news nw → LCg.NsObj oC m₂ → Fr h₀ L h m → AllObj ws (fun its => News h₀ L h (its ++ (C, oC) :: (D, lcObj ys) :: nw) →
      wpAny (model prog w) A (lcTests ifs (compEnvC scope cl C env)) (fun ok s' => if ok = true then wpAny (model prog w) A (eval elt (compEnvC scope cl C env)) (fun y => LcEnd h₀ L m { s with heap := h, toks := tk } (its ++ [(C, oC), (D, lcObj ys)]) news (J (i + 1) (ys ++ [y]))) E' s'
        else LcEnd h₀ L m { s with heap := h, toks := tk } (its ++ [(C, oC), (D, lcObj ys)]) news (J (i + 1) ys) s') E' { s with heap := h, toks := tk }))
    (_ : ∀ D h tk ys nw, (∀ p ∈ news, p.1 < D) → Keep [] news nw → J n ys nw → Fin D ((D, lcObj ys) :: nw) { s with heap := h, toks := tk })
section
variable {prog : Program} {w : World} {A : Around} {E : Value → Shared → Prop} {s : Shared} {h₀ : Heap} {L : Addr} {m : Str → Option Value} {env : Env} {target elt iter : PySem.Expr} {ifs : List PySem.Expr} {scope : Scope} {cl : List (Str × Addr)} {pos : Pos} {news : Led}
def lcFin (h₀ : Heap) (L : Addr) (m : Str → Option Value) (Q : Value → Shared → Prop) : Addr → Led → Shared → Prop := fun D nw s => Fr h₀ L s.heap m → News h₀ L s.heap nw → Q (.ref D) s
def lcFinA (h₀ : Heap) (L : Addr) (m : Str → Option Value) (y : Str) (Q : Flow → Shared → Prop) : Addr → Led → Shared → Prop := fun D nw s => Fr h₀ L s.heap (fun z => if z = y then some (.ref D) else m z) → News h₀ L s.heap nw → Q .next s
theorem lc_eval {Q : Value → Shared → Prop} (_ : Fr h₀ L s.heap m) (hclos : closureFor scope env = pure cl) (hcell : ∀ y ∈ scope.names, y.2 ≠ .cell) (hkind : scope.kind = .function) (hnames : ∀ y ∈ scope.names, y.2 = .local → scope.names.lookup y.1 = some .local)
    (h : wpAny (model prog w) A (eval iter env) (fun xv s₁ => wpAny (model prog w) A (pyIter xv) (LcAt prog w A h₀ L m env target ifs elt scope cl (lcFin h₀ L m Q)) E s₁) E s)
    (hs : ∀ x, foldedSetIterable iter env x = pure x := by intro _; rfl) :
    wpAny (model prog w) A (eval (.ListComp elt [⟨target, iter, ifs, 0⟩] scope pos) env) Q E s := by
  rw [eval_ListComp]
  refine wpAny_comprehension_free (use := none) rfl hs hclos hkind hnames (wpAny_mono h (fun xv s₁ h₁ => wpAny_mono h₁ (fun it s₂ h₂ => ?_) fun _ _ e => e) fun _ _ e => e)
  obtain ⟨lim, I, ws, keep, n, P, news, rfl, S, F, N, hL, hlim, hkeep, hsz, hwne, B, kp, J, hasg, hkp, hkpd, J0, hm, turn, fin⟩ := h₂
  refine lc_block S F N hL hlim hkeep hsz hwne hcell hkind B hasg kp hkp hkpd J J0 hm turn fun D C h tk m' ys nw F' N' hD hn hC₀ hCL hCD offC K' hJ => ?_
  exact ⟨m', hn, fun h'' hs'' => fin D h'' tk ys nw (fun p hp => Nat.lt_of_lt_of_le (hlim p hp) hD) K' hJ (F'.change hs'' hCL hC₀) (fun p hp => ⟨hs''.extBut _ _ (by
    rcases List.mem_cons.mp hp with rfl | hp
    · exact Ne.symm hCD
    · exact offC p hp) (N' p hp).1, (N' p hp).2⟩)⟩
theorem lc_assign {y : Str} {py spos : Pos} {Q : Flow → Shared → Prop} (_ : Fr h₀ L s.heap m) (hLe : env.locals = L)
    (hsw : swapsWith (.ListComp elt [⟨target, iter, ifs, 0⟩] scope pos) (some (.Name y py)) spos.line env = pure true)
    (hclos : closureFor scope env = pure cl) (hcell : ∀ y ∈ scope.names, y.2 ≠ .cell) (hkind : scope.kind = .function) (hnames : ∀ y ∈ scope.names, y.2 = .local → scope.names.lookup y.1 = some .local)
    (hy : env.kindOf y = some .local) (hp : (env.scope.kind == .class || (env.scope.kind == .module && env.locals != env.globals)) = false)
    (h : wpAny (model prog w) A (eval iter env) (fun xv s₁ => wpAny (model prog w) A (pyIter xv) (LcAt prog w A h₀ L m env target ifs elt scope cl (lcFinA h₀ L m y Q)) E s₁) E s)
    (hs : ∀ x, foldedSetIterable iter env x = pure x := by intro _; rfl) :
    wpAny (model prog w) A (exec (.Assign [.Name y py] (.ListComp elt [⟨target, iter, ifs, 0⟩] scope pos) spos) env) Q E s := by
  subst hLe
  rw [exec_Assign_Name_used _ _ _ _ hsw]
  refine wpAny_bind (wpAny_standAt (wpAny_bind ?_))
  show wpAny _ A (do let _ ← comprehension (.ListComp elt [⟨target, iter, ifs, 0⟩] scope pos) scope env _ (newList []) false (eval iter env) (some (assign (.Name y py) env))) _ _ s
  refine wpAny_bind (wpAny_mono (wpAny_comprehension_free (use := some (assign (.Name y py) env)) (Q := fun _ s' => Q .next s') rfl hs hclos hkind hnames
    (wpAny_mono h (fun xv s₁ h₁ => wpAny_mono h₁ (fun it s₂ h₂ => ?_) fun _ _ e => e) fun _ _ e => e)) (fun _ s' hq => wpAny_pure (wpAny_pure hq)) fun _ _ e => e)
  obtain ⟨lim, I, ws, keep, n, P, news, rfl, S, F, N, hL, hlim, hkeep, hsz, hwne, B, kp, J, hasg, hkp, hkpd, J0, hm, turn, fin⟩ := h₂
  refine lc_block S F N hL hlim hkeep hsz hwne hcell hkind B hasg kp hkp hkpd J J0 hm turn fun D C h tk m' ys nw F' N' hD hn hC₀ hCL hCD offC K' hJ => ?_
  show wpAny _ A (assign (.Name y py) env (.ref D)) _ _ _
  refine wpAny_assign_Name (wpAny_storeName_local hy F'.ns (fun h₂ hn₂ hs₂ => ?_) hp)
  have hL₀ : h₀.get? env.locals = none := Heap.get?_none_of_le F'.above
  have F₂ : Fr h₀ env.locals h₂ (fun z => if z = y then some (.ref D) else m z) := ⟨hn₂, fun b o e => hs₂.extBut b o (fun q => by rw [q, hL₀] at e; cases e) (F'.keep b o e), F'.above⟩
  refine ⟨m', hn.sameBut hs₂ hCL, fun h'' hs'' => fin D h'' _ ys nw (fun p hp => Nat.lt_of_lt_of_le (hlim p hp) hD) K' hJ (F₂.change hs'' hCL hC₀) (fun p hp => ?_)⟩
  have z : h₂.get? p.1 = some p.2 := hs₂.extBut _ _ (N' p hp).2.1 (N' p hp).1
  refine ⟨hs''.extBut _ _ ?_ z, (N' p hp).2⟩
  rcases List.mem_cons.mp hp with rfl | hp
  · exact Ne.symm hCD
  · exact offC p hp

/-! what the target's names are bound to -/
theorem asg_name {x : Str} {px : Pos} {C : Addr} {v : Value} {m₃ : Str → Option Value} {Q : Unit → Shared → Prop} (hx : scope.names.lookup x = some .local) (hkind : scope.kind = .function) (hn : s.heap.Ns C m₃)
    (h : ∀ h' tk m₄, h'.Ns C m₄ → (m₄ x = some v ∧ ∀ y, y ≠ x → m₄ y = m₃ y) → (∀ b o, b ≠ C → s.heap.get? b = some o → h'.get? b = some o) → Q () { s with heap := h', toks := tk }) :
    wpAny (model prog w) A (assign (.Name x px) (compEnvC scope cl C env) v) Q E s :=
  wpAny_assign_Name (wpAny_storeName_local (lookup_relabel_local hx) hn (fun h' hn' hs' => h h' _ _ hn' ⟨by simp, fun y hy => by simp [hy]⟩ fun b o hb e => hs'.extBut b o hb e) (by simp [compEnvC, relabel, hkind]))
theorem asg_pair {x x₂ : Str} {px px₂ tp : Pos} {tk} {C T : Addr} {u v : Value} {m₃ : Str → Option Value} {Q : Unit → Shared → Prop} (hh : A.handled = none) (hx : scope.names.lookup x = some .local) (hx₂ : scope.names.lookup x₂ = some .local) (hxx : x ≠ x₂) (hkind : scope.kind = .function) (hn : s.heap.Ns C m₃)
    (hT : IsTup s.heap T #[u, v])
    (h : ∀ h' tk m₄, h'.Ns C m₄ → (m₄ x = some u ∧ m₄ x₂ = some v ∧ ∀ y, y ≠ x → y ≠ x₂ → m₄ y = m₃ y) → (∀ b o, b ≠ C → s.heap.get? b = some o → h'.get? b = some o) → Q () { s with heap := h', toks := tk }) :
    wpAny (model prog w) A (assign (.Tuple [.Name x px, .Name x₂ px₂] tk tp) (compEnvC scope cl C env) (.ref T)) Q E s := by
  refine assign_Tuple_tuple hh hT rfl rfl fun h₅ he => ?_
  have he' : ∀ b o, s.heap.get? b = some o → h₅.get? b = some o := fun b o e => he b o (Nat.ne_of_lt (Heap.lt_size e)) e
  refine assignInOrder_cons (asg_name hx hkind (hn.at' fun o e => he' _ o e) fun h₆ tk₆ m₆ hn₆ hm₆ hs₆ => ?_)
  refine assignInOrder_cons (asg_name hx₂ hkind hn₆ fun h₇ tk₇ m₇ hn₇ hm₇ hs₇ => ?_)
  exact assignInOrder_nil (h h₇ _ m₇ hn₇ ⟨(hm₇.2 x hxx).trans hm₆.1, hm₇.1, fun y h1 h2 => (hm₇.2 y h2).trans (hm₆.2 y h1)⟩ fun b o hb e => hs₇ b o hb (hs₆ b o hb (he' b o e)))
end
/-! lists of the ledger, met by membership -/
def ItemAt (items : Array Value) (k : Int) (v : Value) : Prop := 0 ≤ k ∧ k < 2 ^ 63 ∧ items[k.toNat]? = some v
theorem ItemAt.of {items : Array Value} {k : Int} {v : Value} (i : Nat) (e : k = (i : Int)) (hs : items.size ≤ 2 ^ 62) (hv : items[i]? = some v) : ItemAt items k v := by
  subst e
  have : i < items.size := by
    by_cases h : i < items.size
    · exact h
    · rw [Array.getElem?_eq_none (Nat.not_lt.mp h)] at hv; cases hv
  exact ⟨Int.natCast_nonneg _, by omega, hv⟩
def IdxIn (items : Array Value) (k : Int) : Prop := 0 ≤ k ∧ k < items.size ∧ items.size ≤ 2 ^ 62
section
variable {prog : Program} {w : World} {A : Around} {E : Value → Shared → Prop} {s : Shared} {h₀ : Heap} {L l : Addr} {m : Str → Option Value} {news : Led} {items : Array Value} {n : Nat} {k : Int} {t : Tok} {v : Value}
theorem lst_get {Q : Value → Shared → Prop} (N : News h₀ L s.heap news) (hm : (l, listOf items n) ∈ news) (hi : ItemAt items k v) (h : Q v s) : wpAny (model prog w) A (getItem (.ref l) (.int k t)) Q E s :=
  wpAny_getItem_list (PySem.IsL.isList (n := n) (N _ hm).1) hi.1 hi.2.1 hi.2.2 h
theorem lst_sub {value slice : PySem.Expr} {ops : List Value} {Q : Value → Shared → Prop} (N : News h₀ L s.heap news) (hm : (l, listOf items n) ∈ news) (hi : ItemAt items k v) (h : Q v s)
    (hs : subscripted slice false (.ref l) (.int k t) = operate ops (getItem (.ref l) (.int k t))) : wpAny (model prog w) A (subscriptTail value slice (.ref l) (.int k t)) Q E s :=
  tail_any (PySem.IsL.isList (n := n) (N _ hm).1).typeIs slot_list_getitem.lookup (lst_get N hm hi h) hs
theorem lst_set {Q : Unit → Shared → Prop} (F : Fr h₀ L s.heap m) (N : News h₀ L s.heap news) (hm : (l, listOf items n) ∈ news) (hi : IdxIn items k)
    (h : ∀ h', Fr h₀ L h' m → News h₀ L h' (updL l (listOf (items.setIfInBounds k.toNat v) n) news) → Q () { s with heap := h' }) : wpAny (model prog w) A (setItem (.ref l) (.int k t) v) Q E s := by
  have z := N _ hm
  refine ki_setAt z.1 hi.1 (by have := hi.2; omega) hi.2.1 (h _ (F.change (Heap.SameBut.update ..) z.2.1 z.2.2) (news_updL N hm (Heap.SameBut.update ..) ?_))
  have q := PySem.IsL.update z.1 (·.setIfInBounds k.toNat v)
  simpa using q
theorem lst_append {vs : List Value} {Q : Value → Shared → Prop} (F : Fr h₀ L s.heap m) (N : News h₀ L s.heap news) (hm : (l, listOf vs.toArray n) ∈ news) (hz : vs.length ≤ 100000)
    (h : ∀ h', Fr h₀ L h' m → News h₀ L h' (updL l (listOf (vs ++ [v]).toArray (n + 1)) news) → Q .none { s with heap := h' }) : wpAny (model prog w) A (call (.builtin "list.append") [.ref l, v]) Q E s := by
  have z := N _ hm
  refine append_at (hsz := by rw [sizeLine_eq, List.size_toArray]; omega) z.1 fun h' hs ho => h h' (F.change hs z.2.1 z.2.2) (news_updL N hm hs ?_)
  rw [ho, List.push_toArray]
theorem lst_len {vs : List Value} {Q : Value → Shared → Prop} (N : News h₀ L s.heap news) (hm : (l, listOf vs.toArray n) ∈ news) (hz : vs.length ≤ 100000) (h : Q (.int vs.length (s.toks + 1)) { s with toks := s.toks + 1 + 1 }) :
    wpAny (model prog w) A (call (.builtin "len") [.ref l]) Q E s :=
  len_list (PySem.IsL.isList (n := n) (N _ hm).1) (by rw [List.size_toArray]; omega) (by simpa using h)
end
section
variable {prog : Program} {w : World} {A : Around} {E : Value → Shared → Prop} {s : Shared} {h₀ : Heap} {L l : Addr} {m : Str → Option Value} {news : Led} {vs : List Value} {ns : List Int} {n : Nat} {k x : Int} {t u : Tok}
/-- the ints of a list, one set -/
theorem ints_setL {Q : Unit → Shared → Prop} (F : Fr h₀ L s.heap m) (N : News h₀ L s.heap news) (hm : (l, listOf vs.toArray n) ∈ news) (hi : IntsAre vs ns) (h0 : 0 ≤ k) (h1 : k < ns.length) (hz : ns.length ≤ 1000)
    (h : ∀ h', Fr h₀ L h' m → News h₀ L h' (updL l (listOf (vs.set k.toNat (.int x u)).toArray n) news) → IntsAre (vs.set k.toNat (.int x u)) (ns.set k.toNat x) → Q () { s with heap := h' }) :
    wpAny (model prog w) A (setItem (.ref l) (.int k t) (.int x u)) Q E s := by
  have hl : vs.length = ns.length := hi.length
  refine lst_set F N hm ⟨h0, by simpa [hl] using h1, by simp; omega⟩ fun h' F' N' => h h' F' ?_ (ints_set hi _)
  have e : vs.toArray.setIfInBounds k.toNat (.int x u) = (vs.set k.toNat (.int x u)).toArray := by apply Array.toList_inj.mp; simp
  rw [← e]; exact N'
end
theorem strs_get {vs : List Value} {ss : List Str} (h : StrsAre vs ss) : ∀ {i : Nat}, i < ss.length → ∃ t, vs[i]? = some (.str (ss.getD i ⟨#[]⟩) t) := by
  induction h with
  | nil => intro i hi; cases hi
  | cons y t _ ih =>
    intro i hi
    cases i with
    | zero => exact ⟨t, by simp⟩
    | succ j => obtain ⟨u, hu⟩ := ih (i := j) (by simpa using hi); exact ⟨u, by simpa using hu⟩
theorem strs_len {vs : List Value} {ss : List Str} (h : StrsAre vs ss) : vs.length = ss.length := by
  induction h with
  | nil => rfl
  | cons _ _ _ ih => simp [ih]
theorem strs_snoc {vs : List Value} {ss : List Str} (h : StrsAre vs ss) (y : Str) (t : Tok) : StrsAre (vs ++ [.str y t]) (ss ++ [y]) := by
  induction h with
  | nil => exact .cons y t .nil
  | cons z u _ ih => exact .cons z u ih
section
variable {prog : Program} {w : World} {A : Around} {E : Value → Shared → Prop} {s : Shared} {h₀ : Heap} {L l : Addr} {news : Led} {vs : List Value} {ss : List Str} {n : Nat} {k : Int} {u : Tok}
theorem strs_sub {value slice : PySem.Expr} {Q : Value → Shared → Prop} (N : News h₀ L s.heap news) (hm : (l, listOf vs.toArray n) ∈ news) (hi : StrsAre vs ss) (h0 : 0 ≤ k) (h1 : k < ss.length) (hfit : k < 2 ^ 63) (h : ∀ t, Q (.str (ss.getD k.toNat ⟨#[]⟩) t) s)
    (hs : subscripted slice false (.ref l) (.int k u) = operate [.ref l, .int k u] (getItem (.ref l) (.int k u))) : wpAny (model prog w) A (subscriptTail value slice (.ref l) (.int k u)) Q E s := by
  obtain ⟨t, ht⟩ := strs_get hi (i := k.toNat) (by omega)
  exact lst_sub N hm ⟨h0, hfit, by simpa using ht⟩ (h t) hs
end
section
variable {prog : Program} {w : World} {A : Around} {E : Value → Shared → Prop} {s : Shared} {h₀ : Heap} {L l : Addr} {m : Str → Option Value} {news : Led} {vs : List Value} {n : Nat} {k : Int} {u : Tok} {value slice : PySem.Expr} {Q : Value → Shared → Prop}
theorem lst_slice {vl vu : Value} {lo hi : Option Int} (F : Fr h₀ L s.heap m) (N : News h₀ L s.heap news) (hm : (l, listOf vs.toArray n) ∈ news) (pl : IsPart vl lo) (pu : IsPart vu hi) (hz : vs.length ≤ 100000)
    (h : ∀ D h', Fr h₀ L h' m → News h₀ L h' ((D, listOf (slicePick vs.toArray lo hi none) 0) :: news) → (∀ p ∈ news, p.1 < D) → Q (.ref D) { s with heap := h' })
    (hs : subscripted slice false (.ref l) (.ref s.heap.objs.size) = operate [.ref s.heap.objs.size, .ref l] (getItem (.ref l) (.ref s.heap.objs.size)))
    (ht : ∀ r, letTemporaryGo value (.ref l) r = pure ()) :
    wpAny (model prog w) A (subscriptTail value slice (.ref l) (.ref s.heap.objs.size)) Q E { s with heap := s.heap.push { cls := .type "slice", data := .fields #[vl, vu, .none] } } :=
  slice_list F N (PySem.IsL.isList (n := n) (N _ hm).1) pl pu (fun h' F' N' => h _ h' F' N' fun p hp => Nat.lt_succ_of_lt (Heap.lt_size (N p hp).1)) hs ht (by rw [sizeLine_eq, List.size_toArray]; omega)
theorem lst_copy (F : Fr h₀ L s.heap m) (N : News h₀ L s.heap news) (hm : (l, listOf vs.toArray n) ∈ news) (hz : vs.length ≤ 100000)
    (h : ∀ D h', Fr h₀ L h' m → News h₀ L h' ((D, listOf vs.toArray 0) :: news) → (∀ p ∈ news, p.1 < D) → Q (.ref D) { s with heap := h' })
    (hs : subscripted slice false (.ref l) (.ref s.heap.objs.size) = operate [.ref s.heap.objs.size, .ref l] (getItem (.ref l) (.ref s.heap.objs.size)))
    (ht : ∀ r, letTemporaryGo value (.ref l) r = pure ()) :
    wpAny (model prog w) A (subscriptTail value slice (.ref l) (.ref s.heap.objs.size)) Q E { s with heap := s.heap.push { cls := .type "slice", data := .fields #[.none, .none, .none] } } :=
  lst_slice F N hm .none .none hz (fun D h' F' N' => h D h' F' (by rw [slicePick_all] at N'; exact N')) hs ht
theorem lst_upto (F : Fr h₀ L s.heap m) (N : News h₀ L s.heap news) (hm : (l, listOf vs.toArray n) ∈ news) (h0 : 0 ≤ k) (hz : vs.length ≤ 100000)
    (h : ∀ D h', Fr h₀ L h' m → News h₀ L h' ((D, listOf (vs.take k.toNat).toArray 0) :: news) → (∀ p ∈ news, p.1 < D) → Q (.ref D) { s with heap := h' })
    (hs : subscripted slice false (.ref l) (.ref s.heap.objs.size) = operate [.ref s.heap.objs.size, .ref l] (getItem (.ref l) (.ref s.heap.objs.size)))
    (ht : ∀ r, letTemporaryGo value (.ref l) r = pure ()) :
    wpAny (model prog w) A (subscriptTail value slice (.ref l) (.ref s.heap.objs.size)) Q E { s with heap := s.heap.push { cls := .type "slice", data := .fields #[.none, .int k u, .none] } } :=
  lst_slice F N hm .none (.int _ _) hz (fun D h' F' N' => h D h' F' (by
    obtain ⟨j, rfl⟩ := Int.eq_ofNat_of_zero_le h0
    rw [slicePick_upto'] at N'; exact N')) hs ht
theorem lst_from (F : Fr h₀ L s.heap m) (N : News h₀ L s.heap news) (hm : (l, listOf vs.toArray n) ∈ news) (h0 : 0 ≤ k) (hz : vs.length ≤ 100000)
    (h : ∀ D h', Fr h₀ L h' m → News h₀ L h' ((D, listOf (vs.drop k.toNat).toArray 0) :: news) → (∀ p ∈ news, p.1 < D) → Q (.ref D) { s with heap := h' })
    (hs : subscripted slice false (.ref l) (.ref s.heap.objs.size) = operate [.ref s.heap.objs.size, .ref l] (getItem (.ref l) (.ref s.heap.objs.size)))
    (ht : ∀ r, letTemporaryGo value (.ref l) r = pure ()) :
    wpAny (model prog w) A (subscriptTail value slice (.ref l) (.ref s.heap.objs.size)) Q E { s with heap := s.heap.push { cls := .type "slice", data := .fields #[.int k u, .none, .none] } } :=
  lst_slice F N hm (.int _ _) .none hz (fun D h' F' N' => h D h' F' (by
    obtain ⟨j, rfl⟩ := Int.eq_ofNat_of_zero_le h0
    rw [slicePick_from'] at N'; exact N')) hs ht
end
theorem lst_is {h₀ h : Heap} {L l : Addr} {news : Led} {vs : List Value} {n : Nat} (N : News h₀ L h news) (hm : (l, listOf vs.toArray n) ∈ news) : h.IsList l vs.toArray := PySem.IsL.isList (n := n) (N _ hm).1
theorem rng0 {b : Int} {n : Nat} (e : b = n) (hn : n ≤ 1000) : Builtin.Range.small 0 b 1 = true ∧ Builtin.Range.rangeSize 0 b 1 = (n : Int) := by
  subst e
  exact ⟨small_one (by omega) (by omega) (by omega) (by omega), by rw [PyProof.Rows.rangeSize_nat]; simp⟩
theorem le_sizeLine {n : Nat} (h : n ≤ 100000) : n ≤ sizeLine := by rw [sizeLine_eq]; omega
theorem rules_09_1 : True := by
  (k_with "call builtin:list.count" => ((k_here; (with_reducible show wpAny _ _ (call (Value.builtin _) [Value.ref _, Value.int _ _]) _ _ _); k_dflt (refine' count_list_ints ?z0l ?z0i ?_; (case z0l => (refine' lst_is ?z0l1 ?z0l2; (case z0l1 => k_asm); (case z0l2 => k_mem))); (case z0i => first | with_reducible assumption | ((with_reducible apply IntsAre.take); with_reducible assumption) | fail "ints"); k_whole))))
  (k_with "subscriptTail" => ((k_here; (with_reducible show wpAny _ _ (subscriptTail _ (PySem.Expr.Slice _ _ none _) (Value.ref _) (Value.ref _)) _ _ _); k_dflt (first
  | (refine' lst_copy ?z0k1 ?z0k2 ?z0k3 ?z0k5 ?_ ?z0k6 ?z0k7; (case z0k1 => k_asm); (case z0k2 => k_asm); (case z0k3 => k_mem); (case z0k5 => first | with_reducible assumption | omega); (case z0k6 => with_unfolding_all rfl); (case z0k7 => (intro _; with_unfolding_all rfl)); k_whole)
  | (refine' lst_upto ?z0k1 ?z0k2 ?z0k3 ?z0k4 ?z0k5 ?_ ?z0k6 ?z0k7; (case z0k1 => k_asm); (case z0k2 => k_asm); (case z0k3 => k_mem); (case z0k4 => first | with_reducible assumption | omega); (case z0k5 => first | with_reducible assumption | omega); (case z0k6 => with_unfolding_all rfl); (case z0k7 => (intro _; with_unfolding_all rfl)); k_whole)
  | (refine' lst_from ?z0k1 ?z0k2 ?z0k3 ?z0k4 ?z0k5 ?_ ?z0k6 ?z0k7; (case z0k1 => k_asm); (case z0k2 => k_asm); (case z0k3 => k_mem); (case z0k4 => first | with_reducible assumption | omega); (case z0k5 => first | with_reducible assumption | omega); (case z0k6 => with_unfolding_all rfl); (case z0k7 => (intro _; with_unfolding_all rfl)); k_whole)); intro _ _ _ _ _; (try k_sweep))))
  (k_with "subscriptTail Name Slice ref ref" => ((k_here; (with_reducible show wpAny _ _ (subscriptTail _ (PySem.Expr.Slice _ _ none _) (Value.ref _) (Value.ref _)) _ _ _); k_dflt (first
  | (refine' lst_copy ?z0k1 ?z0k2 ?z0k3 ?z0k5 ?_ ?z0k6 ?z0k7; (case z0k1 => k_asm); (case z0k2 => k_asm); (case z0k3 => k_mem); (case z0k5 => first | with_reducible assumption | omega); (case z0k6 => with_unfolding_all rfl); (case z0k7 => (intro _; with_unfolding_all rfl)); k_whole)
  | (refine' lst_upto ?z0k1 ?z0k2 ?z0k3 ?z0k4 ?z0k5 ?_ ?z0k6 ?z0k7; (case z0k1 => k_asm); (case z0k2 => k_asm); (case z0k3 => k_mem); (case z0k4 => first | with_reducible assumption | omega); (case z0k5 => first | with_reducible assumption | omega); (case z0k6 => with_unfolding_all rfl); (case z0k7 => (intro _; with_unfolding_all rfl)); k_whole)
  | (refine' lst_from ?z0k1 ?z0k2 ?z0k3 ?z0k4 ?z0k5 ?_ ?z0k6 ?z0k7; (case z0k1 => k_asm); (case z0k2 => k_asm); (case z0k3 => k_mem); (case z0k4 => first | with_reducible assumption | omega); (case z0k5 => first | with_reducible assumption | omega); (case z0k6 => with_unfolding_all rfl); (case z0k7 => (intro _; with_unfolding_all rfl)); k_whole)); intro _ _ _ _ _; (try k_sweep))))
  (k_with "subscriptTail" => ((k_here; (with_reducible show wpAny _ _ (subscriptTail _ _ (Value.ref _) (Value.int _ _)) _ _ _); k_dflt (refine' strs_sub ?z0k1 ?z0k2 ?z0k3 ?z0k4 ?z0k5 ?z0k6 ?_ ?z0k7; (case z0k1 => k_asm); (case z0k2 => k_mem); (case z0k3 => first | with_reducible assumption | ((repeat (first | exact StrsAre.nil | apply StrsAre.cons)); done) | fail "strs"); (case z0k4 => first | with_reducible assumption | omega); (case z0k5 => first | with_reducible assumption | omega | (simp only [List.length_cons, List.length_nil]; omega)); (case z0k6 => first | with_reducible assumption | omega); (case z0k7 => with_unfolding_all rfl); k_whole); intro _)))
  (k_with "subscriptTail" => ((k_here; (with_reducible show wpAny _ _ (subscriptTail _ _ (Value.ref _) (Value.int _ _)) _ _ _); k_dflt (refine' ksa_sub ?z0k1 ?z0k2 ?z0k3 ?z0k4 ?z0k5 ?z0k6 ?_ ?z0k7; (case z0k1 => k_asm); (case z0k2 => k_mem); (case z0k3 => with_reducible assumption); (case z0k4 => first | with_reducible assumption | omega); (case z0k5 => first | with_reducible assumption | omega); (case z0k6 => first | with_reducible assumption | omega); (case z0k7 => with_unfolding_all rfl); k_whole); intro _)))
  (k_with "call builtin:list.append" => ((k_here; (with_reducible show wpAny _ _ (call (Value.builtin _) [Value.ref _, _]) _ _ _); k_dflt (refine' lst_append ?z0k1 ?z0k2 ?z0k3 ?z0k4 ?_; (case z0k1 => k_asm); (case z0k2 => k_asm); (case z0k3 => k_mem); (case z0k4 => first | with_reducible assumption | omega | (simp; omega)); k_whole); intro _ _ _; (try k_sweep))))
  (k_with "call builtin:len" => ((k_here; (with_reducible show wpAny _ _ (call (Value.builtin "len") [Value.ref _]) _ _ _); k_dflt (refine' lst_len ?z0k1 ?z0k2 ?z0k3 ?_; (case z0k1 => k_asm); (case z0k2 => k_mem); (case z0k3 => first | with_reducible assumption | omega | (simp; omega)); k_whole))))
  (k_with "setItem ref int" => ((k_here; (with_reducible show wpAny _ _ (setItem (Value.ref _) (Value.int _ _) (Value.int _ _)) _ _ _); k_dflt (refine' ints_setL ?z0k1 ?z0k2 ?z0k3 ?z0k4 ?z0k5 ?z0k6 ?z0k7 ?_; (case z0k1 => k_asm); (case z0k2 => k_asm); (case z0k3 => k_mem); (case z0k4 => with_reducible assumption); (case z0k5 => first | with_reducible assumption | omega); (case z0k6 => first | with_reducible assumption | omega | (simp only [List.length_set, List.length_map]; omega)); (case z0k7 => first | with_reducible assumption | omega | (simp only [List.length_set, List.length_map]; omega)); k_whole); intro _ _ _ _; (try k_sweep))))
  (k_with "getItem ref int" => ((k_here; (with_reducible show wpAny _ _ (getItem (Value.ref _) (Value.int _ _)) _ _ _); k_dflt (refine' ksa_get ?z0k1 ?z0k2 ?z0k3 ?z0k4 ?z0k5 ?z0k6 ?_; (case z0k1 => k_asm); (case z0k2 => k_mem); (case z0k3 => with_reducible assumption); (case z0k4 => first | with_reducible assumption | omega); (case z0k5 => first | with_reducible assumption | omega); (case z0k6 => first | with_reducible assumption | omega); k_whole); intro _)))
  (k_with "subscriptTail Name" => (k_extra "subscriptTail"))
  (k_with "subscriptTail Name Name ref int" => (k_extra "subscriptTail"))
  trivial
def Hold (P : Prop) : Prop := P
theorem Hold.in {P : Prop} (h : Hold P) : P := h
/-! loops over each source -/
def dataO (p : Addr × Obj) : Prop := p.2.cls = .type "list" ∨ p.2.cls = .type "tuple" ∨ p.2.cls = .type "dict" ∨ p.2.cls = .ref 114 ∨ p.2.cls = .type "cell"
def dataNm (n : String) : Prop := n ≠ "list" ∧ n ≠ "tuple" ∧ n ≠ "dict" ∧ n ≠ "cell"
theorem dataO.off {p : Addr × Obj} {n : String} (h : dataO p) (hn : dataNm n) : p.2.cls ≠ .type n := by
  intro e
  rcases h with h | h | h | h | h <;> rw [e] at h
  · exact hn.1 (Value.type.inj h)
  · exact hn.2.1 (Value.type.inj h)
  · exact hn.2.2.1 (Value.type.inj h)
  · cases h
  · exact hn.2.2.2 (Value.type.inj h)
theorem TEnd.intro {h₀ : Heap} {L : Addr} {s₁ : Shared} {need : Led} {xs : List Addr} {news : Led} {J : (Str → Option Value) → Led → Prop} {h' : Heap} {tk : Nat} {gs : Array GenState} {m' : Str → Option Value} {nw' : Led}
    (F : Fr h₀ L h' m') (N : News h₀ L h' nw') (hn : ∀ p ∈ need, p ∈ nw') (hk : Keep xs news nw') (hj : J m' nw') (hg : Bare s₁.gens gs := by repeat (first | exact Bare.refl _ | refine Bare.trans ?_ (by assumption))) : TEnd h₀ L s₁ need xs news J { s₁ with heap := h', toks := tk, gens := gs } := ⟨h', tk, gs, m', nw', rfl, F, N, hn, hk, hj, hg⟩
section
variable {prog : Program} {w : World} {A : Around} {E : Value → Shared → Prop} {s : Shared} {env : Env} {h₀ : Heap} {body : List Stmt} {Q : Flow → Shared → Prop} {m₀ : Str → Option Value} {news : Led} {target : PySem.Expr}
theorem for_list {ax : Addr} {its : Array Value} {n : Nat} (hh : A.handled = none) (F : Fr h₀ env.locals s.heap m₀) (N : News h₀ env.locals s.heap news) (hm : (ax, listOf its n) ∈ news) (xs : List Addr) (hax : ax ∉ xs)
    (J : Nat → (Str → Option Value) → Led → Prop) (J0 : J 0 m₀ news) (hmono : ∀ i m nw nw', J i m nw → (∀ p ∈ nw, dataO p → p ∈ nw') → J i m nw')
    (turn : ∀ i x I oI m₁ nw h tk gs, Bare s.gens gs → its[i]? = some x → J i m₁ nw → Keep xs news nw → (∀ p ∈ news, p.1 < I) → oI.cls = .type "list_iterator" → Fr h₀ env.locals h m₁ → News h₀ env.locals h ((I, oI) :: nw) →
      wpAny (model prog w) A (assign target env x) (fun _ s₂ => wpAny (model prog w) A (execs body env) (TPost h₀ env.locals { s with heap := h, toks := tk, gens := gs } [(I, oI)] xs news (J (i + 1)) Q) E s₂) E { s with heap := h, toks := tk, gens := gs })
    (done : ∀ m₁ nw h tk gs, Bare s.gens gs → J its.size m₁ nw → Keep xs news nw → Fr h₀ env.locals h m₁ → News h₀ env.locals h nw → Q .next { s with heap := h, toks := tk, gens := gs }) :
    wpAny (model prog w) A (pyIter (.ref ax)) (fun it s₂ => LoopG prog w A env target body Q E it s₂) E s := by
  refine src_list (target := target) (vs := its.toList) hh F N hm rfl rfl fun lim I h' S F' N' hL hlim => ?_
  refine for_src S F' N' hL hlim (fun p hp => by rw [List.mem_singleton.mp hp]; exact hm) xs (fun p hp => by rw [List.mem_singleton.mp hp]; exact hax) dataO (fun p hp v hv _ => by rw [List.mem_singleton.mp hv]; exact hp.off (by simp [dataNm])) J J0 hmono ?_ ?_
  · intro i v m₁ nw h tk gs hg hi hP hJ hK F₁ o ho N₁
    obtain ⟨_, _, _, _, _, _, _, hws, _⟩ := S
    exact turn i v I o m₁ nw h tk gs hg (by simpa using hP) hJ hK (fun p hp => Nat.lt_of_lt_of_le (hlim p hp) (hws I (by simp)).2) ho F₁ N₁
  · intro m₁ nw h tk gs hg hJ hK F₁ N₁
    exact done m₁ nw h tk gs hg (by simpa using hJ) hK F₁ N₁
theorem for_str {x n0 : Str} {t : Tok} {px : Pos} (hh : A.handled = none) (F : Fr h₀ env.locals s.heap m₀) (N : News h₀ env.locals s.heap news) (xs : List Addr)
    (J : Nat → (Str → Option Value) → Led → Prop) (J0 : J 0 m₀ news) (hmono : ∀ i m nw nw', J i m nw → (∀ p ∈ nw, dataO p → p ∈ nw') → J i m nw')
    (turn : ∀ i c u I oI m₁ nw h tk gs, Bare s.gens gs → x.cps[i]? = some c → J i m₁ nw → Keep xs news nw → (∀ p ∈ news, p.1 < I) → (oI.cls = .type "str_iterator" ∨ oI.cls = .type "str_ascii_iterator") → Fr h₀ env.locals h m₁ → News h₀ env.locals h ((I, oI) :: nw) →
      wpAny (model prog w) A (assign (.Name n0 px) env (.str ⟨#[c]⟩ u)) (fun _ s₂ => wpAny (model prog w) A (execs body env) (TPost h₀ env.locals { s with heap := h, toks := tk, gens := gs } [(I, oI)] xs news (J (i + 1)) Q) E s₂) E { s with heap := h, toks := tk, gens := gs })
    (done : ∀ m₁ nw h tk gs, Bare s.gens gs → J x.cps.size m₁ nw → Keep xs news nw → Fr h₀ env.locals h m₁ → News h₀ env.locals h nw → Q .next { s with heap := h, toks := tk, gens := gs }) :
    wpAny (model prog w) A (pyIter (.str x t)) (fun it s₂ => LoopG prog w A env (.Name n0 px) body Q E it s₂) E s := by
  refine src_str (target := .Name n0 px) rfl hh F N fun lim I nm h' hnm S F' N' hL hlim => ?_
  refine for_src S F' N' hL hlim (fun p hp => nomatch hp) xs (fun p hp => nomatch hp) dataO (fun p hp v hv _ => by rw [List.mem_singleton.mp hv]; exact hp.off (by rcases hnm with rfl | rfl <;> simp [dataNm])) J J0 hmono ?_ ?_
  · rintro i v m₁ nw h tk gs hg hi ⟨c, u, hc, rfl⟩ hJ hK F₁ o ho N₁
    obtain ⟨_, _, _, _, _, _, _, hws, _⟩ := S
    exact turn i c u I o m₁ nw h tk gs hg hc hJ hK (fun p hp => Nat.lt_of_lt_of_le (hlim p hp) (hws I (by simp)).2) (by rcases hnm with rfl | rfl; exact .inl ho; exact .inr ho) F₁ N₁
  · exact done
theorem for_range {r : Addr} {a b : Int} {t u v : Tok} {n : Nat} {n0 : Str} {px : Pos} (hh : A.handled = none) (hr : IsRange s.heap r a b 1 t u v) (hsm : Builtin.Range.small a b 1 = true) (hn : Builtin.Range.rangeSize a b 1 = (n : Int)) (F : Fr h₀ env.locals s.heap m₀) (N : News h₀ env.locals s.heap news) (xs : List Addr)
    (J : Nat → (Str → Option Value) → Led → Prop) (J0 : J 0 m₀ news) (hmono : ∀ i m nw nw', J i m nw → (∀ p ∈ nw, dataO p → p ∈ nw') → J i m nw')
    (turn : ∀ i u I oI m₁ nw h tk gs, Bare s.gens gs → i < n → J i m₁ nw → Keep xs news nw → (∀ p ∈ news, p.1 < I) → oI.cls = .type "range_iterator" → Fr h₀ env.locals h m₁ → News h₀ env.locals h ((I, oI) :: nw) →
      wpAny (model prog w) A (assign (.Name n0 px) env (.int (a + (i : Int)) u)) (fun _ s₂ => wpAny (model prog w) A (execs body env) (TPost h₀ env.locals { s with heap := h, toks := tk, gens := gs } [(I, oI)] xs news (J (i + 1)) Q) E s₂) E { s with heap := h, toks := tk, gens := gs })
    (done : ∀ m₁ nw h tk gs, Bare s.gens gs → J n m₁ nw → Keep xs news nw → Fr h₀ env.locals h m₁ → News h₀ env.locals h nw → Q .next { s with heap := h, toks := tk, gens := gs }) :
    wpAny (model prog w) A (pyIter (.ref r)) (fun it s₂ => LoopG prog w A env (.Name n0 px) body Q E it s₂) E s := by
  refine src_range (target := .Name n0 px) rfl hh hr hsm hn F N fun lim I nm h' hnm S F' N' hL hlim => ?_
  refine for_src S F' N' hL hlim (fun p hp => nomatch hp) xs (fun p hp => nomatch hp) dataO (fun p hp v hv _ => by rw [List.mem_singleton.mp hv]; exact hp.off (by rw [hnm]; simp [dataNm])) J J0 hmono ?_ ?_
  · rintro i v m₁ nw h tk gs hg hi ⟨t, rfl⟩ hJ hK F₁ o ho N₁
    obtain ⟨_, _, _, _, _, _, _, hws, _⟩ := S
    exact turn i t I o m₁ nw h tk gs hg hi hJ hK (fun p hp => Nat.lt_of_lt_of_le (hlim p hp) (hws I (by simp)).2) (by rw [ho, hnm]) F₁ N₁
  · exact done
variable {elts : List PySem.Expr} {tn : Nat} {tp : Pos}
theorem for_enum {l : Addr} {vs : List Value} (hh : A.handled = none) (F : Fr h₀ env.locals s.heap m₀) (N : News h₀ env.locals s.heap news) (hl0 : h₀.IsList l vs.toArray) (xs : List Addr)
    (J : Nat → (Str → Option Value) → Led → Prop) (J0 : J 0 m₀ news) (hmono : ∀ i m nw nw', J i m nw → (∀ p ∈ nw, dataO p → p ∈ nw') → J i m nw')
    (turn : ∀ (i : Nat) x T t I oI I2 oI2 m₁ nw h tk gs, Bare s.gens gs → vs[i]? = some x → IsTup h T #[.int (i : Int) t, x] → J i m₁ nw → Keep xs news nw → (∀ p ∈ news, p.1 < I ∧ p.1 < I2) → oI.cls = .type "enumerate" → oI2.cls = .type "list_iterator" → Fr h₀ env.locals h m₁ → News h₀ env.locals h ((I, oI) :: (I2, oI2) :: nw) →
      wpAny (model prog w) A (assign (.Tuple elts tn tp) env (.ref T)) (fun _ s₂ => wpAny (model prog w) A (execs body env) (TPost h₀ env.locals { s with heap := h, toks := tk, gens := gs } [(I, oI), (I2, oI2)] xs news (J (i + 1)) Q) E s₂) E { s with heap := h, toks := tk, gens := gs })
    (done : ∀ m₁ nw h tk gs, Bare s.gens gs → J vs.length m₁ nw → Keep xs news nw → Fr h₀ env.locals h m₁ → News h₀ env.locals h nw → Q .next { s with heap := h, toks := tk, gens := gs }) :
    wpAny (model prog w) A (call (.type "enumerate") [.ref l]) (fun xv s₁ => wpAny (model prog w) A (pyIter xv) (fun it s₂ => LoopG prog w A env (.Tuple elts tn tp) body Q E it s₂) E s₁) E s := by
  refine src_enum (elts := elts) (tk := tn) (tp := tp) hh F N hl0 fun lim I I2 h' S F' N' hL hlim => ?_
  refine for_src S F' N' hL hlim (fun p hp => nomatch hp) xs (fun p hp => nomatch hp) dataO (fun p hp v hv _ => hp.off (by simp at hv; rcases hv with rfl | rfl <;> simp [dataNm])) J J0 hmono ?_ ?_
  · rintro i v m₁ nw h tk gs hg hi ⟨T, t, x, rfl, hx, hT⟩ hJ hK F₁ o ho o2 ho2 N₁
    obtain ⟨_, _, _, _, _, _, _, hws, _⟩ := S
    exact turn i x T t I o I2 o2 m₁ nw h tk gs hg hx hT hJ hK (fun p hp => ⟨Nat.lt_of_lt_of_le (hlim p hp) (hws I (by simp)).2, Nat.lt_of_lt_of_le (hlim p hp) (hws I2 (by simp)).2⟩) ho ho2 F₁ N₁
  · exact done
end
/-! comprehensions over each source -/
def tupO (p : Addr × Obj) : Prop := p.2.cls = .type "tuple" ∧ ∃ a n, p.2.data = .seq a n
theorem tupO.ok {ws : List (Addr × String)} (h : ∀ v ∈ ws, v.2 ≠ "tuple") : ∀ p, tupO p → p.2.cls = .type "tuple" ∧ ∀ v ∈ ws, v.2 ≠ "tuple" := fun _ hp => ⟨hp.1, h⟩
theorem tupO.nd : ∀ p, tupO p → ∀ es ep, p.2.data ≠ .dict es ep := by rintro p ⟨_, a, n, e⟩ es ep e2; rw [e] at e2; cases e2
theorem LcEnd.intro {h₀ : Heap} {L : Addr} {m : Str → Option Value} {s₁ : Shared} {need news : Led} {J : Led → Prop} {h' : Heap} {tk : Nat} {nw' : Led}
    (F : Fr h₀ L h' m) (N : News h₀ L h' nw') (hn : ∀ p ∈ need, p ∈ nw') (hk : Keep [] news nw') (hj : J nw') : LcEnd h₀ L m s₁ need news J { s₁ with heap := h', toks := tk } := ⟨h', tk, nw', rfl, F, N, hn, hk, hj⟩
section
variable {prog : Program} {w : World} {A : Around} {E : Value → Shared → Prop} {s : Shared} {env : Env} {h₀ : Heap} {L : Addr} {m : Str → Option Value} {news : Led} {elt : PySem.Expr} {ifs : List PySem.Expr} {scope : Scope} {cl : List (Str × Addr)} {Fin : Addr → Led → Shared → Prop} {x x₂ x₃ : Str} {px px₂ px₃ : Pos}
abbrev LcTurn (prog : Program) (w : World) (A : Around) (h₀ : Heap) (L : Addr) (m : Str → Option Value) (env : Env) (ifs : List PySem.Expr) (elt : PySem.Expr) (scope : Scope) (cl : List (Str × Addr)) (C : Addr) (s₁ : Shared) (need news : Led) (J : List Value → Led → Prop) (ys : List Value) (E' : Value → Shared → Prop) : Prop :=
  wpAny (model prog w) A (lcTests ifs (compEnvC scope cl C env)) (fun ok s' => if ok = true then wpAny (model prog w) A (eval elt (compEnvC scope cl C env)) (fun y => LcEnd h₀ L m s₁ need news (J (ys ++ [y]))) E' s' else LcEnd h₀ L m s₁ need news (J ys) s') E' s₁
theorem lc_range {r : Addr} {a b : Int} {t u v : Tok} {n : Nat} (hx : scope.names.lookup x = some .local) (hkind : scope.kind = .function) (hh : A.handled = none) (hr : IsRange s.heap r a b 1 t u v) (hsm : Builtin.Range.small a b 1 = true) (hn : Builtin.Range.rangeSize a b 1 = (n : Int)) (hsz : n ≤ sizeLine)
    (F : Fr h₀ L s.heap m) (N : News h₀ L s.heap news) (J : Nat → List Value → Led → Prop) (J0 : J 0 [] news) (hmono : ∀ i ys nw nw', J i ys nw → (∀ p ∈ nw, tupO p → p ∈ nw') → J i ys nw')
    (turn : ∀ (i : Nat) u ys nw m₂ C oC D I oI h tk (E' : Value → Shared → Prop), i < n → m₂ x = some (.int (a + i) u) → J i ys nw → Keep [] news nw → (∀ p ∈ news, p.1 < I) → LCg.NsObj oC m₂ → Fr h₀ L h m → News h₀ L h ((I, oI) :: (C, oC) :: (D, lcObj ys) :: nw) →
      LcTurn prog w A h₀ L m env ifs elt scope cl C { s with heap := h, toks := tk } [(I, oI), (C, oC), (D, lcObj ys)] news (J (i + 1)) ys E')
    (fin : ∀ D h tk ys nw, (∀ p ∈ news, p.1 < D) → Keep [] news nw → J n ys nw → Fin D ((D, lcObj ys) :: nw) { s with heap := h, toks := tk }) :
    wpAny (model prog w) A (pyIter (.ref r)) (LcAt prog w A h₀ L m env (.Name x px) ifs elt scope cl Fin) E s := by
  refine src_range (target := .Name x px) rfl hh hr hsm hn F N fun lim I nm h' hnm S F' N' hL hlim => ?_
  refine ⟨lim, I, _, _, n, _, news, rfl, S, F', N', hL, hlim, (fun p hp => nomatch hp), hsz, by simp, (fun i m₂ => ∃ u, m₂ x = some (.int (a + i) u)), tupO, J, ?_, tupO.ok (by simp [hnm]), tupO.nd, J0, hmono, ?_, fin⟩
  · rintro i v C s₁ m₃ Q E hi ⟨t, rfl⟩ hN hn hQ
    exact asg_name hx hkind hn fun h' tk m₄ hn' hm hk => hQ h' tk m₄ hn' ⟨t, hm.1⟩ hk
  · rintro i ys nw m₂ C oC D h tk E' hi ⟨u, hm⟩ hJ hK hC F₁ o ho N₁
    obtain ⟨_, _, _, _, _, _, _, hws, _⟩ := S
    exact turn i u ys nw m₂ C oC D I o h tk E' hi hm hJ hK (fun p hp => Nat.lt_of_lt_of_le (hlim p hp) (hws I (by simp)).2) hC F₁ N₁
theorem lc_list {ax : Addr} {its : Array Value} {k : Nat} (hx : scope.names.lookup x = some .local) (hkind : scope.kind = .function) (hh : A.handled = none) (hm : (ax, listOf its k) ∈ news) (hsz : its.size ≤ sizeLine)
    (F : Fr h₀ L s.heap m) (N : News h₀ L s.heap news) (J : Nat → List Value → Led → Prop) (J0 : J 0 [] news) (hmono : ∀ i ys nw nw', J i ys nw → (∀ p ∈ nw, tupO p → p ∈ nw') → J i ys nw')
    (turn : ∀ (i : Nat) v ys nw m₂ C oC D I oI h tk (E' : Value → Shared → Prop), its[i]? = some v → m₂ x = some v → J i ys nw → Keep [] news nw → (∀ p ∈ news, p.1 < I) → LCg.NsObj oC m₂ → Fr h₀ L h m → News h₀ L h ((I, oI) :: (C, oC) :: (D, lcObj ys) :: nw) →
      LcTurn prog w A h₀ L m env ifs elt scope cl C { s with heap := h, toks := tk } [(I, oI), (C, oC), (D, lcObj ys)] news (J (i + 1)) ys E')
    (fin : ∀ D h tk ys nw, (∀ p ∈ news, p.1 < D) → Keep [] news nw → J its.size ys nw → Fin D ((D, lcObj ys) :: nw) { s with heap := h, toks := tk }) :
    wpAny (model prog w) A (pyIter (.ref ax)) (LcAt prog w A h₀ L m env (.Name x px) ifs elt scope cl Fin) E s := by
  refine src_list (target := .Name x px) (vs := its.toList) hh F N hm rfl rfl fun lim I h' S F' N' hL hlim => ?_
  refine ⟨lim, I, _, _, _, _, news, rfl, S, F', N', hL, hlim, (fun p hp => by rw [List.mem_singleton.mp hp]; exact hm), by simpa using hsz, by simp, (fun i m₂ => ∃ v, its[i]? = some v ∧ m₂ x = some v), tupO, J, ?_, tupO.ok (by simp), tupO.nd, J0, hmono, ?_, fun D h tk ys nw hD hK hJ => fin D h tk ys nw hD hK (by simpa using hJ)⟩
  · rintro i v C s₁ m₃ Q E hi hv hN hn hQ
    exact asg_name hx hkind hn fun h' tk m₄ hn' hm hk => hQ h' tk m₄ hn' ⟨v, by simpa using hv, hm.1⟩ hk
  · rintro i ys nw m₂ C oC D h tk E' hi ⟨v, hv, hm⟩ hJ hK hC F₁ o ho N₁
    obtain ⟨_, _, _, _, _, _, _, hws, _⟩ := S
    exact turn i v ys nw m₂ C oC D I o h tk E' hv hm hJ hK (fun p hp => Nat.lt_of_lt_of_le (hlim p hp) (hws I (by simp)).2) hC F₁ N₁
theorem lc_str {y : Str} {t : Tok} (hx : scope.names.lookup x = some .local) (hkind : scope.kind = .function) (hh : A.handled = none) (hsz : y.cps.size ≤ sizeLine)
    (F : Fr h₀ L s.heap m) (N : News h₀ L s.heap news) (J : Nat → List Value → Led → Prop) (J0 : J 0 [] news) (hmono : ∀ i ys nw nw', J i ys nw → (∀ p ∈ nw, tupO p → p ∈ nw') → J i ys nw')
    (turn : ∀ (i : Nat) c u ys nw m₂ C oC D I oI h tk (E' : Value → Shared → Prop), y.cps[i]? = some c → m₂ x = some (.str ⟨#[c]⟩ u) → J i ys nw → Keep [] news nw → (∀ p ∈ news, p.1 < I) → LCg.NsObj oC m₂ → Fr h₀ L h m → News h₀ L h ((I, oI) :: (C, oC) :: (D, lcObj ys) :: nw) →
      LcTurn prog w A h₀ L m env ifs elt scope cl C { s with heap := h, toks := tk } [(I, oI), (C, oC), (D, lcObj ys)] news (J (i + 1)) ys E')
    (fin : ∀ D h tk ys nw, (∀ p ∈ news, p.1 < D) → Keep [] news nw → J y.cps.size ys nw → Fin D ((D, lcObj ys) :: nw) { s with heap := h, toks := tk }) :
    wpAny (model prog w) A (pyIter (.str y t)) (LcAt prog w A h₀ L m env (.Name x px) ifs elt scope cl Fin) E s := by
  refine src_str (target := .Name x px) rfl hh F N fun lim I nm h' hnm S F' N' hL hlim => ?_
  refine ⟨lim, I, _, _, _, _, news, rfl, S, F', N', hL, hlim, (fun p hp => nomatch hp), hsz, by simp, (fun i m₂ => ∃ c u, y.cps[i]? = some c ∧ m₂ x = some (.str ⟨#[c]⟩ u)), tupO, J, ?_, tupO.ok (by rcases hnm with rfl | rfl <;> simp), tupO.nd, J0, hmono, ?_, fin⟩
  · rintro i v C s₁ m₃ Q E hi ⟨c, u, hc, rfl⟩ hN hn hQ
    exact asg_name hx hkind hn fun h' tk m₄ hn' hm hk => hQ h' tk m₄ hn' ⟨c, u, hc, hm.1⟩ hk
  · rintro i ys nw m₂ C oC D h tk E' hi ⟨c, u, hc, hm⟩ hJ hK hC F₁ o ho N₁
    obtain ⟨_, _, _, _, _, _, _, hws, _⟩ := S
    exact turn i c u ys nw m₂ C oC D I o h tk E' hc hm hJ hK (fun p hp => Nat.lt_of_lt_of_le (hlim p hp) (hws I (by simp)).2) hC F₁ N₁
variable {tn : Nat} {tp : Pos}
/-- over a zip of two lists; nothing new is kept but the list itself -/
theorem lc_zip {l1 l2 : Addr} {xs ys₀ : Array Value} {n1 n2 : Nat} (hx : scope.names.lookup x = some .local) (hx₂ : scope.names.lookup x₂ = some .local) (hxx : x ≠ x₂) (hkind : scope.kind = .function) (hh : A.handled = none) (hm1 : (l1, listOf xs n1) ∈ news) (hm2 : (l2, listOf ys₀ n2) ∈ news) (hsz : xs.size ≤ sizeLine) (hsame : ys₀.size = xs.size)
    (F : Fr h₀ L s.heap m) (N : News h₀ L s.heap news) (J : Nat → List Value → Prop) (J0 : J 0 [])
    (turn : ∀ (i : Nat) u v ys nw m₂ C oC D I oI I1 oI1 I2 oI2 I3 oI3 I4 oI4 h tk (E' : Value → Shared → Prop), xs[i]? = some u → ys₀[i]? = some v → m₂ x = some u → m₂ x₂ = some v → J i ys → Keep [] news nw → LCg.NsObj oC m₂ → Fr h₀ L h m → News h₀ L h ((I, oI) :: (I1, oI1) :: (I2, oI2) :: (I3, oI3) :: (I4, oI4) :: (C, oC) :: (D, lcObj ys) :: nw) →
      LcTurn prog w A h₀ L m env ifs elt scope cl C { s with heap := h, toks := tk } [(I, oI), (I1, oI1), (I2, oI2), (I3, oI3), (I4, oI4), (C, oC), (D, lcObj ys)] news (fun ys _ => J (i + 1) ys) ys E')
    (fin : ∀ D h tk ys nw, (∀ p ∈ news, p.1 < D) → Keep [] news nw → J xs.size ys → Fin D ((D, lcObj ys) :: nw) { s with heap := h, toks := tk }) :
    wpAny (model prog w) A (call (.type "zip") [.ref l1, .ref l2]) (fun xv s₁ => wpAny (model prog w) A (pyIter xv) (LcAt prog w A h₀ L m env (.Tuple [.Name x px, .Name x₂ px₂] tn tp) ifs elt scope cl Fin) E s₁) E s := by
  refine src_zip (elts := [.Name x px, .Name x₂ px₂]) (tk := tn) (tp := tp) (xs := xs.toList) (ys := ys₀.toList) hh F N hm1 rfl rfl hm2 rfl rfl fun lim h' S F' N' hL hlim => ?_
  refine ⟨lim, _, _, _, _, _, news, rfl, S, F', N', hL, hlim, (fun p hp => by simp at hp; rcases hp with rfl | rfl <;> assumption), ?_, by simp, (fun i m₂ => ∃ u v, xs[i]? = some u ∧ ys₀[i]? = some v ∧ m₂ x = some u ∧ m₂ x₂ = some v), (fun _ => False), (fun i ys _ => J i ys), ?_, (fun _ h => h.elim), (fun _ h => h.elim), J0, (fun _ _ _ _ h _ => h), ?_, fun D h tk ys nw hD hK hJ => fin D h tk ys nw hD hK (by simpa [hsame] using hJ)⟩
  · have : min xs.toList.length ys₀.toList.length ≤ xs.size := by simp; omega
    exact Nat.le_trans this hsz
  · rintro i v C s₁ m₃ Q E hi ⟨T, a, b, rfl, ha, hb, hT⟩ hN hn hQ
    exact asg_pair hh hx hx₂ hxx hkind hn hT fun h' tk m₄ hn' hm hk => hQ h' tk m₄ hn' ⟨a, b, by simpa using ha, by simpa using hb, hm.1, hm.2.1⟩ hk
  · rintro i ys nw m₂ C oC D h tk E' hi ⟨u, v, hu, hv, h1, h2⟩ hJ hK hC F₁ o ho o1 ho1 o2 ho2 o3 ho3 o4 ho4 N₁
    exact turn i u v ys nw m₂ C oC D _ o _ o1 _ o2 _ o3 _ o4 h tk E' hu hv h1 h2 hJ hK hC F₁ N₁
end
theorem rules_10_1 : True := by
  (k_with "call type:enumerate" => ((k_here; refine Hold.in ?_)))
  (k_with "call type:zip" => ((k_here; refine Hold.in ?_)))
  (k_with "exec While Compare cons nil" => ((k_here; refine Hold.in ?_)))
  (k_with "exec While Constant cons nil" => ((k_here; refine Hold.in ?_)))
  (k_with "pyIter ref" => ((k_here; refine Hold.in ?_)))
  (k_with "pyIter str" => ((k_here; refine Hold.in ?_)))
  (k_with "exec For Tuple Call cons nil" => ((k_here; (with_unfolding_all refine' For_g ?z0lF ?_; (case z0lF => k_asm); k_whole))))
  (k_with "exec For Name Call cons nil" => ((k_here; (with_unfolding_all refine' For_g ?z0lF ?_; (case z0lF => k_asm); k_whole))))
  (k_with "exec For Name Name cons nil" => ((k_here; (with_unfolding_all refine' For_g ?z0lF ?_; (case z0lF => k_asm); k_whole))))
  (k_with "exec For Tuple Name cons nil" => ((k_here; (with_unfolding_all refine' For_g ?z0lF ?_; (case z0lF => k_asm); k_whole))))
  (k_with "eval Name" => ((k_here; (fail_if_success (with_reducible show wpAny _ _ (eval (Expr.Name _ _) (compEnvC _ _ _ _)) _ _ _)); k_dflt (first | (refine' nameX_L ?z0F ?z0v ?_ ?z0a ?z0b; (case z0a => rfl); (case z0b => rfl); (case z0F => k_asm); (case z0v => first | with_reducible assumption | exact rfl | assumption); k_whole) | (refine' nameX_C ?z0N ?z0c ?z0m ?z0d ?_ ?z0a ?z0b; (case z0a => rfl); (case z0b => rfl); (case z0N => k_asm); (case z0c => rfl); (case z0m => k_mem); (case z0d => k_asm); k_whole) | (refine' nameX_K ?z0F ?z0X ?z0T ?z0e ?_ ?z0a ?z0b; (case z0F => k_asm); (case z0X => k_asm); (case z0T => k_asm); (case z0a => rfl); (case z0b => rfl); (case z0e => k_is); k_whole) | (refine' nameX_B ?z0F ?z0X ?z0T ?z0e ?z0v ?z0n ?_ ?z0a ?z0b; (case z0F => k_asm); (case z0X => k_asm); (case z0T => k_asm); (case z0a => rfl); (case z0b => rfl); (case z0e => k_is); (case z0v => boot_fast); (case z0n => decide); k_whole) | fail "no name of mine"))))
  (k_with "eval Name" => ((k_here; (with_reducible show wpAny _ _ (eval (Expr.Name _ _) (envOf _ _ _ _ _)) _ _ _); k_dflt (refine' ld ?z0k1 ?z0k2 ?_; (case z0k1 => k_asm); (case z0k2 => first | with_reducible assumption | exact rfl | assumption); k_whole))))
  (k_with "eval ListComp" => ((k_here; k_dflt (refine' lc_eval ?z0F ?z0h1 ?z0h2 ?z0h3 ?z0h4 ?_ ?z0h5; (case z0F => k_asm); (case z0h1 => with_unfolding_all rfl); (case z0h2 => decide); (case z0h3 => rfl); (case z0h4 => decide); (case z0h5 => (intro _; with_unfolding_all rfl))))))
  (k_with "exec Assign cons ListComp" => ((k_here; k_dflt (refine' lc_assign ?z0F ?z0hL ?z0hw ?z0h1 ?z0h2 ?z0h3 ?z0h4 ?z0h6 ?z0h7 ?_ ?z0h5; (case z0F => k_asm); (case z0hL => exact rfl); (case z0hw => with_unfolding_all rfl); (case z0h1 => with_unfolding_all rfl); (case z0h2 => decide); (case z0h3 => rfl); (case z0h4 => decide); (case z0h6 => rfl); (case z0h7 => rfl); (case z0h5 => (intro _; with_unfolding_all rfl))))))
  (k_with "TPost" => ((dsimp only [TPost]; refine Hold.in ?_)))
  trivial
theorem cells_spec {w : World} {news : Led} {l : Addr} {vs : List Value} {ns : List Int} (hi : IntsAre vs ns) {r : Nat} (hr : r = 3)
   (p : PySem.Program) (loose : List Str) (mean : ExcName → Option Value) (mg mb : Str → Option Value) (dp un : Nat) (gd : Option (List Code)) (cn : Str) (cs : Scope) (L a : Addr) (ccd : Value) (cl : List (Str × Addr)) (outer : List Env)
   (A₀ : Around) (base h₀ : Heap) (m : Str → Option Value) (s : Shared) (Q E : Value → Shared → Prop) (hl : base.IsList l vs.toArray)
   (B : Below A₀ base outer h₀) (F : Fr h₀ L s.heap m) (X : (hd.heap_39 w.params).In h₀) (N : News h₀ L s.heap news) (T : Top p loose mean mg mb h₀) (X24 : h₀.get? 24 = some (set24 w.params)) (hk : cs.kind = .function) (hdp : dp + r < recursionLimit) (hun : un + 10 * r < cLine)
   (ret : ∀ lc vs3 ns3 n news' h' tk' gs', Fr h₀ L h' m → News h₀ L h' news' → Keep [] news news' → (lc, listOf vs3.toArray n) ∈ news' → IntsAre vs3 ns3 → ns3.length = 3 → (_ : Bare s.gens gs' := by repeat (first | exact Bare.refl _ | refine Bare.trans ?_ (by assumption))) → Q (.ref lc) { s with heap := h', toks := tk', gens := gs' }) :
   wpAny (model Challenge.rw_wo0004_01.row.prog w) (ktrTop dp un gd cn cs L a ccd cl outer) (call (.ref 125) [.ref l]) Q E s := by
  refine wpAny_call ?_
  k_dflt (refine' code_def ?k1 ?k2 ?k3 ?k4 ?k5 ?kA ?kF ?kK ?k6 ?k7 ?k8 ?k9 ?kB ?_ ?c2 ?c3 ?c4 ?c5; (case kA => exact rfl); (case kF => exact rfl); (case kK => first | assumption | exact rfl); (case k1 => k_asm); (case k2 => k_asm); (case k3 => k_asm); (case k4 => k_asm); (case k5 => k_asm); (case k6 => k_is); (case k7 => k_is); (case k8 => k_room); (case k9 => first | exact BindsTo.of_eq rfl | exact binds_K (by k_in) rfl (by k_is) rfl rfl rfl); (case c5 => decide); (case kB => exact locs rfl); (case c2 => exact rfl); (case c3 => exact rfl); (case c4 => exact rfl); k_whole)
  intro g1 L1 h1 FG F1 N1 B1 X1 T1
  (try dsimp only)
  (try k_lift B1)
  obtain ⟨m1, F2, hm⟩ : ∃ m1, Fr g1 L1 h1 m1 ∧ (m1 (Str.ofString "script") = some (.ref l) ∧ True) := ⟨_, F1, rfl, trivial⟩
  obtain ⟨hm1, _⟩ := hm
  clear F1
  (try k_fold)
  k_steps
  rename_i tk1 lc h1 l1 h2 F2 N2
  unfold Hold
  refine for_enum rfl F2 N2 ‹_› [lc] (fun i m nw => m (Str.ofString "cells") = some (.ref lc) ∧ ∃ vs3 ns3 n, (lc, listOf vs3.toArray n) ∈ nw ∧ IntsAre vs3 ns3 ∧ ns3.length = 3)
    ⟨rfl, _, _, _, by k_mem, .cons _ _ (.cons _ _ (.cons _ _ .nil)), rfl⟩ (by rintro i m nw nw' ⟨h, a, b, n, hm, r⟩ k; exact ⟨h, a, b, n, k _ hm (.inl rfl), r⟩) ?_ ?_
  · rintro i x T1 t I oI I2 oI2 m₁ nw h4 tk4 gs4 hG6 hx hT ⟨hc, vs3, ns3, n, hmem, hi3, h3⟩ K4 hlt ho ho2 F4 N4
    have hxi : i < ns.length := by rw [← hi.length]; exact (List.getElem?_eq_some_iff.mp hx).1
    obtain ⟨tx, hx2⟩ := hi.get i ns[i] (by simp [hxi])
    obtain rfl : x = .int ns[i] tx := by rw [hx] at hx2; exact Option.some.inj hx2
    have hb0 : 0 ≤ Int.fmod (i : Int) 3 := Int.fmod_nonneg (by omega) (by omega)
    have hb1 : Int.fmod (i : Int) 3 < ns3.length := by rw [h3]; exact Int.fmod_lt_of_pos _ (by omega)
    have hb2 : Int.fmod (i : Int) 3 < 2 ^ 63 := by rw [h3] at hb1; omega
    have hb3 : ns3.length ≤ 1000 := by omega
    have n1 : I ≠ lc := Ne.symm (Nat.ne_of_lt (hlt _ (List.mem_cons_self ..)).1)
    have n2 : I2 ≠ lc := Ne.symm (Nat.ne_of_lt (hlt _ (List.mem_cons_self ..)).2)
    k_steps
    exact TEnd.intro (by k_asm) (by k_asm) (List.forall_mem_cons.mpr ⟨by k_mem, List.forall_mem_cons.mpr ⟨by k_mem, fun _ h => nomatch h⟩⟩) (by k_updF) (by exact ⟨hc, _, _, _, by k_mem, by assumption, by simpa using h3⟩)
  · rintro m₁ nw h4 tk4 gs4 hG6 ⟨hc, vs3, ns3, n, hmem, hi3, h3⟩ K4 F4 N4
    k_steps
    exact ret lc _ _ _ _ _ _ _ (by k_asm) (by k_asm) (fun p hp _ => K4 p (List.mem_cons_of_mem _ hp) (by simpa using Nat.ne_of_lt (l1 p hp))) hmem hi3 h3
section
open Lx
theorem toNat_pred (i : Nat) : ((i : Int) - 1).toNat = ((i - 1 : Nat) : Int).toNat := by omega
theorem sub_pred {n k : Nat} (h0 : 0 < k) (h1 : k ≤ n) : n - (k - 1) = n - k + 1 := by omega
/-! the lattice words -/
def wFit (wd : Nat) (ws : List Nat) (r : Nat) : Bool := decide (ws.count r < wd) && (r == 0 || decide (ws.count r < ws.count (r - 1)))
def wFitsN (h wd : Nat) (ws : List Nat) (i : Nat) : List Nat := (List.range i).filter (wFit wd ws)
theorem wFitsN_succ (h wd : Nat) (ws : List Nat) (i : Nat) : wFitsN h wd ws (i + 1) = wFitsN h wd ws i ++ (if wFit wd ws i = true then [i] else []) := by
  unfold wFitsN
  rw [List.range_succ, List.filter_append]
  congr 1
  cases e : wFit wd ws i <;> simp [e]
def wFits (h wd : Nat) (ws : List Nat) : List Nat := wFitsN h wd ws h
def wGen (h wd : Nat) : Nat → List (List Nat)
  | 0 => [[]]
  | n + 1 => (wGen h wd n).flatMap fun w => (wFits h wd w).map fun r => w ++ [r]
def shapes : List (Nat × Nat) := [(3, 3), (4, 2), (2, 4), (5, 2)]
theorem wGen_ok : ∀ p ∈ shapes, ∀ n < p.1 * p.2, ∀ w ∈ wGen p.1 p.2 n, wFits p.1 p.2 w ≠ [] := by decide +kernel
theorem wGen_step {h wd n : Nat} {w : List Nat} {r : Nat} (hw : w ∈ wGen h wd n) (hr : r ∈ wFits h wd w) : w ++ [r] ∈ wGen h wd (n + 1) :=
  List.mem_flatMap.mpr ⟨w, hw, List.mem_map.mpr ⟨r, hr, rfl⟩⟩
theorem wGen_len {h wd : Nat} : ∀ {n : Nat} {w : List Nat}, w ∈ wGen h wd n → w.length = n
  | 0, w, hw => by simp [wGen] at hw; simp [hw]
  | n + 1, w, hw => by
    obtain ⟨v, hv, hw⟩ := List.mem_flatMap.mp hw
    obtain ⟨r, _, rfl⟩ := List.mem_map.mp hw
    simp [wGen_len hv]
def wCounts (h : Nat) (ws : List Nat) : List Int := (List.range h).map fun r => (ws.count r : Int)

theorem shapes_small {h wd : Nat} (hs : (h, wd) ∈ shapes) : h ≤ 5 ∧ wd ≤ 4 := by
  simp only [shapes, List.mem_cons, Prod.mk.injEq, List.not_mem_nil, or_false] at hs
  omega
theorem rep_one (h : Nat) (v : Value) : (List.replicate (h : Int).toNat [v]).flatten = List.replicate h v := by
  rw [Int.toNat_natCast]
  induction h with
  | zero => rfl
  | succ n ih => rw [List.replicate_succ, List.flatten_cons, ih]; rfl
theorem ints_rep (h : Nat) (t : Tok) : IntsAre (List.replicate h (Value.int 0 t)) (wCounts h []) := by
  have e : wCounts h [] = List.replicate h 0 := by
    unfold wCounts
    apply List.ext_getElem <;> simp
  rw [e]
  induction h with
  | zero => exact .nil
  | succ n ih => exact .cons 0 t (ih (by unfold wCounts; apply List.ext_getElem <;> simp))

theorem wCounts_get {h : Nat} {ws : List Nat} {i : Nat} (hi : i < h) : (wCounts h ws).getD (i : Int).toNat 0 = ws.count i := by
  simp [wCounts, hi]
theorem ints_snoc {vs : List Value} {ns : List Int} (h : IntsAre vs ns) (k : Int) (t : Tok) : IntsAre (vs ++ [.int k t]) (ns ++ [k]) := by
  induction h with
  | nil => exact .cons k t .nil
  | cons i u _ ih => exact .cons i u ih
theorem getD_ofNat {l : List Nat} {i : Nat} (hi : i < l.length) : ∃ r ∈ l, (l.map Int.ofNat).getD i 0 = (r : Int) := ⟨l[i], List.getElem_mem _, by simp [hi]⟩
theorem wCounts_set {h : Nat} {ws : List Nat} {r : Nat} (hr : r < h) : (wCounts h ws).set r ((wCounts h ws).getD r 0 + 1) = wCounts h (ws ++ [r]) := by
  apply List.ext_getElem
  · simp [wCounts]
  · intro i h1 h2
    have hi : i < h := by simpa [wCounts] using h2
    rw [List.getElem_set]
    by_cases e : r = i
    · subst e; simp [wCounts, hi]
    · simp [wCounts, e, hi]

/-! cells -/
section
variable {M : Model} {A : Around} {E : Value → Shared → Prop} {s : Shared} {h₀ : Heap} {L a : Addr} {m : Str → Option Value} {cn : Str} {cs : Scope} {ccd : Value} {cl : List (Str × Addr)} {x : Str} {v : Value} {Q : Unit → Shared → Prop} {news : Led} {c : Addr} {o : Obj} {v₀ : Option Value}
theorem storeC_L (F : Fr h₀ L s.heap m) (N : News h₀ L s.heap news) (hc : cl.lookup x = some c) (hm : (c, o) ∈ news) (hd : o.data = .cell v₀)
    (h : ∀ h' o', Fr h₀ L h' m → News h₀ L h' (updL c o' news) → o'.data = .cell (some v) → Q () { s with heap := h' })
    (hk : cs.kind = .function := by rfl) (hx : (envX cn cs L a ccd cl).kindOf x = some .cell := by rfl) : wpAny M A (storeName (envX cn cs L a ccd cl) x v) Q E s := by
  have hmem := N (c, o) hm
  refine wpAny_storeName_cell hk hx hc ⟨o, hmem.1, hd⟩ fun h' hv hs => ?_
  obtain ⟨o', ho', hd'⟩ := hv
  exact h h' o' ⟨F.ns.sameBut hs (Ne.symm hmem.2.1), fun b ob e => (hs.2 b (fun q => by rw [q, hmem.2.2] at e; cases e)).trans (F.keep b ob e), F.above⟩ (news_updL N hm hs ho') hd'
end
theorem rules_12_1 : True := by
  (k_with "storeName" => (((k_here; k_dflt (refine' storeC_L ?z0F ?z0N ?z0c ?z0U ?z0d ?_ ?z0a ?z0b; (case z0a => rfl); (case z0b => rfl); (case z0F => k_asm); (case z0N => k_asm); (case z0c => rfl); (case z0U => k_mem); (case z0d => assumption); k_whole; intro _ _ _ N'; (try dsimp only at N'); revert N'; intro _ _; (try k_sweep))))))
  trivial

inductive WordJ (h wd : Nat) (t2 : Tok) (lw L1 : Addr) (oc3 oc2 : Obj) (news : Led) (lc : Addr) (k : Nat) (m : Str → Option Value) (nw : Led) : Prop
  | mk (_ : m (Str.ofString "high") = some (.int h t2)) (_ : m (Str.ofString "word") = some (.ref lw)) (_ : (L1 + 1 + 1, oc3) ∈ nw) (_ : (L1 + 1, oc2) ∈ nw) (_ : Keep [] news nw) (ws : List Nat) (n n' : Nat) (cvs wvs : List Value) (num' : Int) (t' : Tok)
    (_ : m (Str.ofString "number") = some (.int num' t')) (_ : (lw, listOf wvs.toArray n) ∈ nw) (_ : IntsAre wvs (ws.map Int.ofNat)) (_ : (lc, listOf cvs.toArray n') ∈ nw) (_ : IntsAre cvs (wCounts h ws)) (_ : k ≤ h * wd) (_ : ws ∈ wGen h wd (h * wd - k))
set_option maxHeartbeats 0 in
theorem word_spec {w : World} {news : Led} {h wd : Nat} (hs : (h, wd) ∈ shapes) {num : Int} {t1 t2 t3 : Tok} :
   Spec 3 w 130 [.int num t1, .int h t2, .int wd t3] news (fun v news' => Keep [] news news' ∧ ∃ l n vs ws, v = .ref l ∧ (l, listOf vs.toArray n) ∈ news' ∧ ws ∈ wGen h wd (h * wd) ∧ IntsAre vs (ws.map Int.ofNat)) := by
  intro p loose mean mg mb dp un gd cn cs L a ccd cl outer A₀ base h₀ m s Q E B F X N T X24 hk hdp hun ret
  refine wpAny_call ?_
  k_dflt (refine' code_defC ?k1 ?k2 ?k3 ?k4 ?k5 ?kA ?kF ?kK ?k6 ?k7 ?k8 ?k9 ?kB ?kD ?_ ?c2 ?c3 ?c4; (case kA => exact rfl); (case kF => exact rfl); (case kK => first | assumption | exact rfl); (case k1 => k_asm); (case k2 => k_asm); (case k3 => k_asm); (case k4 => k_asm); (case k5 => k_asm); (case k6 => k_is); (case k7 => k_is); (case k8 => k_room); (case k9 => first | exact BindsTo.of_eq rfl | exact binds_K (by k_in) rfl (by k_is) rfl rfl rfl); (case kB => exact rfl); (case kD => decide +kernel); (case c2 => exact rfl); (case c3 => exact rfl); (case c4 => exact rfl); k_whole)
  intro g1 L1 h1 tk1 cells FG F1 N1 Y1 B1 X1 T1 l1
  obtain ⟨oc1, oc2, hE, d1, d2⟩ := CellsAre.two Y1
  subst hE; clear Y1
  simp only [List.cons_append, List.nil_append] at N1
  (try dsimp only)
  (try k_lift B1)
  obtain ⟨m1, F2, hm⟩ : ∃ m1, Fr g1 L1 h1 m1 ∧ (m1 (Str.ofString "number") = some (.int num t1) ∧ m1 (Str.ofString "high") = some (.int h t2) ∧ True) := ⟨_, F1, rfl, rfl, trivial⟩
  obtain ⟨hm1, hm2, _⟩ := hm
  clear F1
  (try k_fold)
  replace d1 : oc1.data = .cell none := d1
  replace d2 : oc2.data = .cell (some (.int wd t3)) := d2
  have hb : h ≤ 5 ∧ wd ≤ 4 := shapes_small hs
  k_steps
  rename_i lz hz0 ll1 lc hc0 i1 n1 s1 e1 e2 e3 ll2 hs0 oc3 d3 tk2 lw hw0 ll3 h7 F7 N7
  rw [rep_one] at N7
  have hlc : lc ≠ L1 + 1 + 1 := Nat.ne_of_gt ll2.2.1
  have hlz : lz ≠ L1 + 1 + 1 := Nat.ne_of_gt ll1.1
  have hlw : lw ≠ lc := Nat.ne_of_gt (ll3 (lc, _) (mem_updL_ne (List.mem_cons_self ..) hlc))
  have hnew : ∀ p ∈ news, p.1 ≠ L1 + 1 + 1 := fun p hp => Nat.ne_of_lt (Nat.lt_succ_of_lt (Nat.lt_succ_of_lt (l1 p hp)))
  have hllw : lc < lw := ll3 (lc, _) (mem_updL_ne (List.mem_cons_self ..) hlc)
  have hnlc : ∀ p ∈ news, p.1 ≠ lc := fun p hp => Nat.ne_of_lt (Nat.lt_trans (l1 p hp) (Nat.lt_trans (Nat.lt_succ_of_lt (Nat.lt_succ_self _)) ll2.2.1))
  have hnlw : ∀ p ∈ news, p.1 ≠ lw := fun p hp => Nat.ne_of_lt (Nat.lt_trans (Nat.lt_trans (l1 p hp) (Nat.lt_trans (Nat.lt_succ_of_lt (Nat.lt_succ_self _)) ll2.2.1)) hllw)
  have hnw1 : L1 + 1 + 1 ≠ lw := Nat.ne_of_lt (Nat.lt_trans ll2.2.1 hllw)
  have hnw2 : L1 + 1 ≠ lw := Nat.ne_of_lt (Nat.lt_trans (Nat.lt_trans (Nat.lt_succ_self _) ll2.2.1) hllw)
  have hnc2 : L1 + 1 ≠ lc := Nat.ne_of_lt (Nat.lt_trans (Nat.lt_succ_self _) ll2.2.1)
  have hz : h * wd ≤ 20 := Nat.le_trans (Nat.mul_le_mul hb.1 hb.2) (by omega)
  unfold Hold
  refine While_inv2 (n₀ := h * wd) (WordJ h wd t2 lw L1 oc3 oc2 news lc) F7 N7
    ⟨hm2, rfl, by k_mem, by k_mem, by k_updF, [], 0, 0, List.replicate h (.int 0 tk1), [], num, t1, hm1, by k_mem, .nil, by k_mem, ints_rep h tk1, Nat.le_refl _, by rw [Nat.sub_self]; exact List.mem_cons_self ..⟩ ?_
  rintro k m₁ nw h8 tk8 F8 N8 ⟨hh, hw, hc3, hc2, hK, ws, n, n', cvs, wvs, num', t', hn, hmw, hiw, hmc, hic, hk0, hws⟩
  have hlen := wGen_len hws
  have hwl : wvs.length = ws.length := by rw [hiw.length]; simp
  clear F7 N7
  k_steps
  · rename_i hlt h9 tk10 t₁ u₁ v₁ hr F9 N9 hk9
    unfold Hold
    refine lc_range (n := h) rfl rfl rfl hr (rng0 rfl (by omega)).1 (rng0 rfl (by omega)).2 (le_sizeLine (by omega)) F9 N9 (fun i ys nw => IntsAre ys ((wFitsN h wd ws i).map Int.ofNat)) .nil (fun _ _ _ _ h _ => h) ?_ ?_
    · intro i u ys nw2 m₂ C oC D I oI h10 tk11 E' hi hm hJ hK2 hlt2 hC F10 N10
      rw [Int.zero_add] at hm
      have hcl : (wCounts h ws).length = h := by simp [wCounts]
      have hw1 : (wFitsN h wd ws (i + 1)) = wFitsN h wd ws i ++ (if wFit wd ws i = true then [i] else []) := wFitsN_succ ..
      refine wpAny_tests_one ?_
      have c1 : (wCounts h ws).getD (i : Int).toNat 0 = ws.count i := wCounts_get hi
      have c2 : i ≠ 0 → (wCounts h ws).getD ((i : Int) - 1).toNat 0 = ws.count (i - 1) := fun h0 => by
        rw [toNat_pred]; exact wCounts_get (by omega)
      k_steps
      · rename_i a1 a2
        have hf : wFit wd ws i = true := by simp [wFit]; omega
        exact LcEnd.intro (by k_asm) (by k_asm) (fun p hp => List.mem_append_left nw2 hp) (by k_updF) (by rw [hw1, if_pos hf, List.map_append]; exact ints_snoc hJ _ _)
      · rename_i a1 a2 _ _ a3
        have c2 := c2 (by omega)
        have hf : wFit wd ws i = true := by simp [wFit]; omega
        exact LcEnd.intro (by k_asm) (by k_asm) (fun p hp => List.mem_append_left nw2 hp) (by k_updF) (by rw [hw1, if_pos hf, List.map_append]; exact ints_snoc hJ _ _)
      · rename_i a1 a2 _ _ a3
        have c2 := c2 (by omega)
        have hf : ¬ wFit wd ws i = true := by simp [wFit]; omega
        exact LcEnd.intro (by k_asm) (by k_asm) (fun p hp => List.mem_append_left nw2 hp) (by k_updF) (by rw [hw1, if_neg hf, List.append_nil]; exact hJ)
      · rename_i a1
        have hf : ¬ wFit wd ws i = true := by simp [wFit]; omega
        exact LcEnd.intro (by k_asm) (by k_asm) (fun p hp => List.mem_append_left nw2 hp) (by k_updF) (by rw [hw1, if_neg hf, List.append_nil]; exact hJ)
    · intro D h10 tk11 ys nw2 hD hK2 hJ F11 N11
      have hlt' : ws.length < h * wd := by rw [← Int.natCast_mul, hwl] at hlt; exact Int.ofNat_lt.mp hlt
      have hne : wFitsN h wd ws h ≠ [] := wGen_ok (h, wd) hs _ (by rw [← hlen]; exact hlt') ws hws
      have hyl : ys.length = (wFitsN h wd ws h).length := by rw [hJ.length]; simp
      have hpos : 0 < ys.length := by rw [hyl]; exact List.length_pos_iff.mpr hne
      have hys : ys.length ≤ 100 := by rw [hyl]; refine Nat.le_trans (List.length_filter_le _ _) ?_; simp; omega
      have hm0 : 0 ≤ Int.fmod num' ys.length := Int.fmod_nonneg_of_pos _ (by omega)
      have hm1 : Int.fmod num' ys.length < ((wFitsN h wd ws h).map Int.ofNat).length := by rw [List.length_map, ← hyl]; exact Int.fmod_lt_of_pos _ (by omega)
      have hm2 : Int.fmod num' ys.length < 2 ^ 63 := by rw [List.length_map, ← hyl] at hm1; omega
      obtain ⟨r, hr1, hq⟩ : ∃ r ∈ wFitsN h wd ws h, ((wFitsN h wd ws h).map Int.ofNat).getD (Int.fmod num' ys.length).toNat 0 = (r : Int) := getD_ofNat (by rw [List.length_map] at hm1; omega)
      have hrh : r < h := List.mem_range.mp (List.mem_filter.mp hr1).1
      have hcl : (wCounts h ws).length = h := by simp [wCounts]
      have hq0 : 0 ≤ ((wFitsN h wd ws h).map Int.ofNat).getD (Int.fmod num' ys.length).toNat 0 := by rw [hq]; omega
      have hq1 : ((wFitsN h wd ws h).map Int.ofNat).getD (Int.fmod num' ys.length).toNat 0 < (wCounts h ws).length := by rw [hq, hcl]; omega
      have hq2 : ((wFitsN h wd ws h).map Int.ofNat).getD (Int.fmod num' ys.length).toNat 0 < 2 ^ 63 := by rw [hq]; omega
      have nD : lc ≠ D := Nat.ne_of_lt (hD _ hmc)
      have nDw : lw ≠ D := Nat.ne_of_lt (hD _ hmw)
      k_steps
      have hk1 : 0 < k := by omega
      dsimp only [WhileStep2]
      refine ⟨_, _, _, _, k - 1, rfl, by k_asm, by k_asm, by omega, ?_⟩
      refine ⟨by exact hh, by exact hw, by k_mem, by k_mem, ?_, ws ++ [r], _, _, _, _, _, _, rfl, by k_mem, ?_, by k_mem, ?_, by omega, ?_⟩
      · have hK3 : Keep [] news nw2 := hK.trans hK2 (fun _ h => h)
        k_updF
      · rw [List.map_append, hq]; exact ints_snoc hiw _ _
      · have e : (wCounts h ws).set (((wFitsN h wd ws h).map Int.ofNat).getD (Int.fmod num' ys.length).toNat 0).toNat ((wCounts h ws).getD (((wFitsN h wd ws h).map Int.ofNat).getD (Int.fmod num' ys.length).toNat 0).toNat 0 + 1) = wCounts h (ws ++ [r]) := by rw [hq]; exact wCounts_set hrh
        rw [← e]; assumption
      · rw [sub_pred hk1 hk0]; exact wGen_step hws hr1
  · rename_i hlt _ _ _ _
    have hk0' : k = 0 := by
      have h2 : ¬ wvs.length < h * wd := fun x => hlt (by rw [← Int.natCast_mul]; exact Int.ofNat_lt.mpr x)
      omega
    subst hk0'
    exact ret _ _ _ _ _ (by k_asm) (by k_asm) ⟨hK, lw, n, wvs, ws, rfl, hmw, by simpa using hws, hiw⟩
end
section
open Lx
/-! the letters' parts -/
def tails : List (List Nat) := [[], [65528], [65534]]
/-- a letter of the law's text: great or small, and what stands behind it -/
structure Pt where
  up : Bool
  tl : Nat
  ok : tl < 3
def letter (up : Bool) (k : Nat) : Nat := (if up then 65 else 97) + k
def Pt.codes (c : Pt) (k : Nat) : List Nat := letter c.up k :: tails.getD c.tl []
def partCodes : List Pt → List (List Nat)
  | cs => cs.mapIdx fun k c => c.codes k
abbrev mkS (l : List Nat) : Str := ⟨l.toArray⟩

theorem fmod2 (k : Int) : Int.fmod k 2 = 0 ∨ Int.fmod k 2 = 1 := by
  have := Int.fmod_nonneg_of_pos k (b := 2) (by omega)
  have := Int.fmod_lt_of_pos k (b := 2) (by omega)
  omega
theorem fmod3 (k : Int) : Int.fmod k 3 = 0 ∨ Int.fmod k 3 = 1 ∨ Int.fmod k 3 = 2 := by
  have := Int.fmod_nonneg_of_pos k (b := 3) (by omega)
  have := Int.fmod_lt_of_pos k (b := 3) (by omega)
  omega
theorem menu2 (num : Int) : ∃ up : Bool, ([97, 65] : List Int).getD (Int.fmod num 2).toNat 0 = (letter up 0 : Nat) := by
  rcases fmod2 num with e | e <;> rw [e]
  · exact ⟨false, rfl⟩
  · exact ⟨true, rfl⟩
theorem letter_add (up : Bool) (k : Nat) : letter up k = letter up 0 + k := by cases up <;> rfl
theorem letter_lt (up : Bool) (k : Nat) : letter up k ≤ 97 + k := by cases up <;> simp [letter] <;> omega
theorem parts_pick {num : Int} {i : Nat} {up : Bool} (hup : ([97, 65] : List Int).getD (Int.fmod num 2).toNat 0 = (letter up 0 : Nat)) :
    ∃ c : Pt, ((⟨#[(([97, 65] : List Int).getD (Int.fmod num 2).toNat 0 + (i : Int)).toNat]⟩ : Str) ++ ([Str.ofString "", ⟨#[Int.toNat 65528]⟩, ⟨#[Int.toNat 65534]⟩] : List Str).getD (Int.fmod (Int.fdiv num 2) 3).toNat ⟨#[]⟩) = mkS (c.codes i) := by
  rw [hup, show ((letter up 0 : Nat) : Int) + (i : Int) = ((letter up i : Nat) : Int) by rw [letter_add up i]; simp, Int.toNat_natCast]
  rcases fmod3 (Int.fdiv num 2) with e | e | e <;> rw [e]
  · exact ⟨⟨up, 0, by omega⟩, rfl⟩
  · exact ⟨⟨up, 1, by omega⟩, rfl⟩
  · exact ⟨⟨up, 2, by omega⟩, rfl⟩
theorem partCodes_snoc (cs : List Pt) (c : Pt) : partCodes (cs ++ [c]) = partCodes cs ++ [c.codes cs.length] := by
  simp [partCodes, List.mapIdx_append]
theorem rules_13_1 : True := by
  (k_with "binaryOp Add str str" => ((k_here; (with_reducible show wpAny _ _ (binaryOp Operator.Add (Value.str _ _) (Value.str (List.getD (_ :: _) _ _) _)) _ _ _); kopn_open; (refine KOpn.add (by kopn_len) ?_); intro _ _ _)))
  (k_with "call builtin:chr" => ((k_here; k_dflt (refine' chr_of_range ?z0a ?z0b ?_; (case z0a => first | with_reducible assumption | omega); (case z0b => first | with_reducible assumption | omega); k_whole))))
  trivial

inductive PartsJ (lp : Addr) (i : Nat) (m : Str → Option Value) (nw : Led) : Prop
  | mk (_ : m (Str.ofString "parts") = some (.ref lp)) (num' : Int) (t' : Tok) (cs : List Pt) (vs : List Value) (c : Nat) (_ : m (Str.ofString "number") = some (.int num' t')) (_ : (lp, listOf vs.toArray c) ∈ nw) (_ : cs.length = i) (_ : StrsAre vs ((partCodes cs).map mkS))
set_option maxHeartbeats 0 in
theorem parts_spec {w : World} {news : Led} {n : Nat} (hn : n ≤ 10) {num : Int} {t1 t2 : Tok} :
   Spec 3 w 137 [.int num t1, .int n t2] news (fun v news' => Keep [] news news' ∧ ∃ l c vs cs, v = .ref l ∧ (l, listOf vs.toArray c) ∈ news' ∧ cs.length = n ∧ StrsAre vs ((partCodes cs).map mkS)) := by
  intro p loose mean mg mb dp un gd cn cs L a ccd cl outer A₀ base h₀ m s Q E B F X N T X24 hk hdp hun ret
  refine wpAny_call ?_
  k_dflt (refine' code_def ?k1 ?k2 ?k3 ?k4 ?k5 ?kA ?kF ?kK ?k6 ?k7 ?k8 ?k9 ?kB ?_ ?c2 ?c3 ?c4 ?c5; (case kA => exact rfl); (case kF => exact rfl); (case kK => first | assumption | exact rfl); (case k1 => k_asm); (case k2 => k_asm); (case k3 => k_asm); (case k4 => k_asm); (case k5 => k_asm); (case k6 => k_is); (case k7 => k_is); (case k8 => k_room); (case k9 => first | exact BindsTo.of_eq rfl | exact binds_K (by k_in) rfl (by k_is) rfl rfl rfl); (case c5 => decide); (case kB => exact locs rfl); (case c2 => exact rfl); (case c3 => exact rfl); (case c4 => exact rfl); k_whole)
  intro g1 L1 h1 FG F1 N1 B1 X1 T1
  (try dsimp only)
  (try k_lift B1)
  obtain ⟨m1, F2, hm⟩ : ∃ m1, Fr g1 L1 h1 m1 ∧ (m1 (Str.ofString "number") = some (.int num t1) ∧ m1 (Str.ofString "much") = some (.int n t2) ∧ True) := ⟨_, F1, rfl, rfl, trivial⟩
  obtain ⟨hm1, hm2, _⟩ := hm
  clear F1
  (try k_fold)
  k_steps
  rename_i lp h3 ll3 h4 F4 N4 h5 tk5 t₁ u₁ v₁ hr F5 N5 hk5
  unfold Hold
  refine for_range (n := n) rfl hr (rng0 rfl (by omega)).1 (rng0 rfl (by omega)).2 F5 N5 [lp] (PartsJ lp)
    ⟨rfl, num, t1, [], [], 0, hm1, by k_mem, rfl, .nil⟩ (by rintro i m nw nw' ⟨a, b, c, d, e, f, g, hm, r, r2⟩ k; exact ⟨a, b, c, d, e, f, g, k _ hm (.inl rfl), r, r2⟩) ?_ ?_
  · rintro i u I oI m₁ nw h6 tk6 gs6 hG6 hin ⟨hp, num', t', cs, vs, c, hnu, hmem, hl, hst⟩ K6 hlt ho F6 N6
    rw [Int.zero_add]
    obtain ⟨up, hup⟩ := menu2 num'
    have hc0 : 0 ≤ ([97, 65] : List Int).getD (Int.fmod num' 2).toNat 0 + (i : Int) := by rw [hup]; omega
    have hc1 : ([97, 65] : List Int).getD (Int.fmod num' 2).toNat 0 + (i : Int) < 1114112 := by rw [hup]; have := letter_lt up 0; omega
    have hd0 : 0 ≤ Int.fmod (Int.fdiv num' 2) 3 := by rcases fmod3 (Int.fdiv num' 2) with e | e | e <;> omega
    have hd1 : Int.fmod (Int.fdiv num' 2) 3 < (3 : Nat) := by rcases fmod3 (Int.fdiv num' 2) with e | e | e <;> omega
    have hd2 : Int.fmod (Int.fdiv num' 2) 3 < 2 ^ 63 := by omega
    have hvl : vs.length ≤ 100000 := by rw [strs_len hst]; simp [partCodes]; omega
    have nI : I ≠ lp := Ne.symm (Nat.ne_of_lt (hlt _ (List.mem_cons_self ..)))
    k_steps
    refine TEnd.intro (by k_asm) (by k_asm) (List.forall_mem_cons.mpr ⟨by k_mem, fun _ h => nomatch h⟩) (by k_updF) ?_
    obtain ⟨c9, hc9⟩ := parts_pick (i := i) hup
    refine ⟨by exact hp, _, _, cs ++ [c9], _, _, rfl, by k_mem, by simp [hl], ?_⟩
    rw [partCodes_snoc, List.map_append, hc9, hl]
    exact strs_snoc hst _ _
  · rintro m₁ nw h6 tk6 gs6 hG6 ⟨hp, num', t', cs, vs, c, hnu, hmem, hl, hst⟩ K6 F6 N6
    k_steps
    exact ret _ _ _ _ _ (by k_asm) (by k_asm) ⟨fun p hp _ => K6 p (List.mem_cons_of_mem _ hp) (by simpa using Nat.ne_of_lt (ll3 p hp)), _, _, _, _, rfl, hmem, hl, hst⟩
end
section
open Lx
/-! one pass along the word -/
def passStep (w : List Nat) (i : Nat) : List Nat :=
  let r := w.getD (i + 1) 0
  if r = 0 ∨ (w.take i).count (r - 1) > (w.take i).count r then (w.set i r).set (i + 1) (w.getD i 0) else w
def passN (w : List Nat) : Nat → List Nat
  | 0 => w
  | i + 1 => passStep (passN w i) i
def passF (w : List Nat) : List Nat := passN w (w.length - 1)
theorem rules_14_1 : True := by
  (k_with "getMethod ref" => ((k_here; (with_reducible show wpAny _ _ (getMethod (Value.ref _) (Str.ofString "count") _) _ _ _); with_unfolding_all refine getMethod_list_of PySem.F.slot_list_count PySem.F.type_list_count (by is_list) (by no_dict) ?_)))
  trivial
theorem passStep_len (w : List Nat) (i : Nat) : (passStep w i).length = w.length := by
  unfold passStep
  dsimp only
  split <;> simp
theorem passN_len (w : List Nat) : ∀ i, (passN w i).length = w.length
  | 0 => rfl
  | i + 1 => (passStep_len _ _).trans (passN_len w i)

theorem map_getD (w : List Nat) {k : Int} {i : Nat} (e : k = (i : Int)) : (w.map Int.ofNat).getD k.toNat 0 = ((w.getD i 0 : Nat) : Int) := by
  subst e
  rw [Int.toNat_natCast]
  by_cases h : i < w.length
  · simp [h]
  · simp [List.getD, List.getElem?_eq_none (Nat.not_lt.mp h)]

theorem pass_map (w : List Nat) (i : Nat) (hc : w.getD (i + 1) 0 = 0 ∨ (w.take i).count (w.getD (i + 1) 0 - 1) > (w.take i).count (w.getD (i + 1) 0)) :
    (passStep w i).map Int.ofNat = ((w.map Int.ofNat).set (i : Int).toNat ((w.map Int.ofNat).getD ((i : Int) + 1).toNat 0)).set ((i : Int) + 1).toNat ((w.map Int.ofNat).getD (i : Int).toNat 0) := by
  rw [map_getD w (i := i + 1) (by simp), map_getD w (k := (i : Int)) (i := i) rfl]
  unfold passStep
  dsimp only
  rw [if_pos hc, List.map_set, List.map_set, Int.toNat_natCast, show ((i : Int) + 1).toNat = i + 1 by omega]
  rfl
theorem pass_count (w : List Nat) (i r : Nat) : List.count (r : Int) (List.take (i : Int).toNat (w.map Int.ofNat)) = (w.take i).count r := by
  rw [Int.toNat_natCast, ← List.map_take]
  generalize w.take i = l
  induction l with
  | nil => rfl
  | cons a l ih =>
    rw [List.map_cons, List.count_cons, List.count_cons, ih]
    congr 1
    have : ((Int.ofNat a == (r : Int)) : Bool) = (a == r) := by
      rw [Bool.eq_iff_iff]
      simp
      omega
    rw [this]

set_option maxHeartbeats 0 in
theorem pass_spec {w : World} {news : Led} {lw n : Nat} {vs : List Value} {ws : List Nat} (hm : (lw, listOf vs.toArray n) ∈ news) (hi : IntsAre vs (ws.map Int.ofNat)) (hl : 1 ≤ ws.length ∧ ws.length ≤ 100) :
   Spec 3 w 144 [.ref lw] news (fun v news' => Keep [] news news' ∧ ∃ l c vs', v = .ref l ∧ (l, listOf vs'.toArray c) ∈ news' ∧ IntsAre vs' ((passF ws).map Int.ofNat)) := by
  intro p loose mean mg mb dp un gd cn cs L a ccd cl outer A₀ base h₀ m s Q E B F X N T X24 hk hdp hun ret
  have hvl : vs.length = ws.length := by rw [hi.length]; simp
  refine wpAny_call ?_
  k_dflt (refine' code_def ?k1 ?k2 ?k3 ?k4 ?k5 ?kA ?kF ?kK ?k6 ?k7 ?k8 ?k9 ?kB ?_ ?c2 ?c3 ?c4 ?c5; (case kA => exact rfl); (case kF => exact rfl); (case kK => first | assumption | exact rfl); (case k1 => k_asm); (case k2 => k_asm); (case k3 => k_asm); (case k4 => k_asm); (case k5 => k_asm); (case k6 => k_is); (case k7 => k_is); (case k8 => k_room); (case k9 => first | exact BindsTo.of_eq rfl | exact binds_K (by k_in) rfl (by k_is) rfl rfl rfl); (case c5 => decide); (case kB => exact locs rfl); (case c2 => exact rfl); (case c3 => exact rfl); (case c4 => exact rfl); k_whole)
  intro g1 L1 h1 FG F1 N1 B1 X1 T1
  (try dsimp only)
  (try k_lift B1)
  obtain ⟨m1, F2, hm⟩ : ∃ m1, Fr g1 L1 h1 m1 ∧ (m1 (Str.ofString "word") = some (.ref lw) ∧ True) := ⟨_, F1, rfl, trivial⟩
  obtain ⟨hm1, _⟩ := hm
  clear F1
  (try k_fold)
  k_steps
  rename_i lp h3 ll3 h4 F4 N4 e4 h5 tk5 t₁ u₁ v₁ hr F5 N5 hk5
  have hlen : ((ws.map Int.ofNat).length : Int) - 1 = ((ws.length - 1 : Nat) : Int) := by simp; omega
  unfold Hold
  refine for_range (n := ws.length - 1) rfl hr (rng0 hlen (by omega)).1 (rng0 hlen (by omega)).2 F5 N5 [lp] (fun i m nw => m (Str.ofString "word") = some (.ref lp) ∧ ∃ vs' c, (lp, listOf vs'.toArray c) ∈ nw ∧ IntsAre vs' ((passN ws i).map Int.ofNat))
    ⟨rfl, vs, 0, by k_mem, by assumption⟩ (by rintro i m nw nw' ⟨a, b, c, hm, r⟩ k; exact ⟨a, b, c, k _ hm (.inl rfl), r⟩) ?_ ?_
  · rintro i u I oI m₁ nw h6 tk6 gs6 hG6 hin ⟨hp, vs', c, hmem, hi'⟩ K6 hlt ho F6 N6
    rw [Int.zero_add]
    have hpl := passN_len ws i
    have hvl' : vs'.length = ws.length := by rw [hi'.length, List.length_map, hpl]
    have hml : ((passN ws i).map Int.ofNat).length = ws.length := by rw [List.length_map, hpl]
    have nI : I ≠ lp := Ne.symm (Nat.ne_of_lt (hlt _ (List.mem_cons_self ..)))
    have hr1 : ((passN ws i).map Int.ofNat).getD ((i : Int) + 1).toNat 0 = (((passN ws i).getD (i + 1) 0 : Nat) : Int) := map_getD _ (by omega)
    have fin : ∀ vs2, IntsAre vs2 ((((passN ws i).map Int.ofNat).set (i : Int).toNat (((passN ws i).map Int.ofNat).getD ((i : Int) + 1).toNat 0)).set ((i : Int) + 1).toNat (((passN ws i).map Int.ofNat).getD (i : Int).toNat 0)) →
        ((passN ws i).getD (i + 1) 0 = 0 ∨ ((passN ws i).take i).count ((passN ws i).getD (i + 1) 0 - 1) > ((passN ws i).take i).count ((passN ws i).getD (i + 1) 0)) → IntsAre vs2 ((passN ws (i + 1)).map Int.ofNat) := fun vs2 h hc => by
      rw [show passN ws (i + 1) = passStep (passN ws i) i from rfl, pass_map _ _ hc]; exact h
    k_steps
    · rename_i a1 _ _ _ _ _ _ _ _ _ _ _ _
      unfold Hold
      exact TEnd.intro (by k_asm) (by k_asm) (List.forall_mem_cons.mpr ⟨by k_mem, fun _ h => nomatch h⟩) (by k_updF) (by exact ⟨hp, _, _, by k_mem, fin _ (by assumption) (.inl (by omega))⟩)
    · unfold Hold
      have hX : ¬ (passN ws i).getD (i + 1) 0 = 0 := by
        have := ‹((passN ws i).map Int.ofNat).getD ((i : Int) + 1).toNat 0 ≠ 0›
        omega
      have hY := ‹((List.count _ _ : Nat) : Int) < ((List.count _ _ : Nat) : Int)›
      rw [hr1, pass_count, show (((passN ws i).getD (i + 1) 0 : Nat) : Int) - 1 = (((passN ws i).getD (i + 1) 0 - 1 : Nat) : Int) by omega, pass_count] at hY
      exact TEnd.intro (by k_asm) (by k_asm) (List.forall_mem_cons.mpr ⟨by k_mem, fun _ h => nomatch h⟩) (by k_updF) (by exact ⟨hp, _, _, by k_mem, fin _ (by assumption) (.inr (by omega))⟩)
    · unfold Hold
      have hX : ¬ (passN ws i).getD (i + 1) 0 = 0 := by
        have := ‹((passN ws i).map Int.ofNat).getD ((i : Int) + 1).toNat 0 ≠ 0›
        omega
      have hY := ‹¬ ((List.count _ _ : Nat) : Int) < ((List.count _ _ : Nat) : Int)›
      rw [hr1, pass_count, show (((passN ws i).getD (i + 1) 0 : Nat) : Int) - 1 = (((passN ws i).getD (i + 1) 0 - 1 : Nat) : Int) by omega, pass_count] at hY
      have hs : passN ws (i + 1) = passN ws i := by
        show passStep (passN ws i) i = _
        unfold passStep
        exact if_neg (by omega)
      exact TEnd.intro (by k_asm) (by k_asm) (List.forall_mem_cons.mpr ⟨by k_mem, fun _ h => nomatch h⟩) (by k_updF) (by exact ⟨hp, _, _, by k_mem, by rw [hs]; exact hi'⟩)
  · rintro m₁ nw h6 tk6 gs6 hG6 ⟨hp, vs', c, hmem, hi'⟩ K6 F6 N6
    k_steps
    exact ret _ _ _ _ _ (by k_asm) (by k_asm) ⟨fun p hp _ => K6 p (List.mem_cons_of_mem _ hp) (by simpa using Nat.ne_of_lt (ll3 p hp)), _, _, _, rfl, hmem, hi'⟩
end
/-! the signs that the table tells -/
def inC6 (c : Nat) : Bool := decide (65529 ≤ c ∧ c ≤ 65533)
def marksAdd (ms : List Nat) (c : Nat) : List Nat := if inC6 c = true ∧ c ∉ ms then ms ++ [c] else ms
def marksF (cs : List Nat) : List Nat := cs.foldl marksAdd []
def sgn (c : Nat) : Str := ⟨#[c]⟩
theorem marksF_len (cs : List Nat) : (marksF cs).length ≤ cs.length := by
  suffices h : ∀ (l ms : List Nat), (l.foldl marksAdd ms).length ≤ ms.length + l.length by simpa [marksF] using h cs []
  intro l
  induction l with
  | nil => intro ms; simp
  | cons c l ih =>
    intro ms
    refine Nat.le_trans (ih _) ?_
    unfold marksAdd
    split <;> simp <;> omega
theorem marks_any (ms : List Nat) (c : Nat) : (ms.map sgn).any (· == sgn c) = decide (c ∈ ms) := by
  rw [Bool.eq_iff_iff]
  simp [sgn]
theorem rules_15_1 : True := by
  (k_with "call ref" => ((k_here; (with_reducible show wpAny _ _ (call (Value.ref 34) _) _ _ _); k_dflt (refine' Spec.use (c6_spec ?z0s1) ?sB ?sF ?sX ?sN ?sT ?s24 ?sK ?sD ?sU ?_; k_extra "x_inv"; (case z0s1 => first | with_reducible assumption | omega); k_whole); intro _ _ _ _ _ _ _ _ hR9; (obtain ⟨e9, e9'⟩ := hR9); subst e9; subst e9'; (try k_sweep))))
  (k_with "compareOp NotIn str ref" => ((k_here; (with_reducible show wpAny _ _ (compareOp CmpOp.NotIn (Value.str _ _) (Value.ref _)) _ _ _); k_dflt (refine' notin_list_strs ?z0l ?z0i ?_; (case z0l => (refine' lst_is ?z0l1 ?z0l2; (case z0l1 => k_asm); (case z0l2 => k_mem))); (case z0i => with_reducible assumption); k_whole))))
  (k_with "compareOp NotIn" => ((k_here; (with_reducible show wpAny _ _ (compareOp CmpOp.NotIn (Value.str _ _) (Value.ref _)) _ _ _); k_dflt (refine' notin_list_strs ?z0l ?z0i ?_; (case z0l => (refine' lst_is ?z0l1 ?z0l2; (case z0l1 => k_asm); (case z0l2 => k_mem))); (case z0i => with_reducible assumption); k_whole))))
  trivial

set_option maxHeartbeats 0 in
theorem marks_spec {w : World} {news : Led} {cs : List Nat} {t1 : Tok} (hcs : ∀ c ∈ cs, c < 1114112) (hl : cs.length ≤ 1000) :
   Spec 7 w 151 [.str (mkS cs) t1] news (fun v news' => Keep [] news news' ∧ ∃ l c vs, v = .ref l ∧ (l, listOf vs.toArray c) ∈ news' ∧ StrsAre vs ((marksF cs).map sgn)) := by
  intro p loose mean mg mb dp un gd cn cs' L a ccd cl outer A₀ base h₀ m s Q E B F X N T X24 hk hdp hun ret
  refine wpAny_call ?_
  k_dflt (refine' code_def ?k1 ?k2 ?k3 ?k4 ?k5 ?kA ?kF ?kK ?k6 ?k7 ?k8 ?k9 ?kB ?_ ?c2 ?c3 ?c4 ?c5; (case kA => exact rfl); (case kF => exact rfl); (case kK => first | assumption | exact rfl); (case k1 => k_asm); (case k2 => k_asm); (case k3 => k_asm); (case k4 => k_asm); (case k5 => k_asm); (case k6 => k_is); (case k7 => k_is); (case k8 => k_room); (case k9 => first | exact BindsTo.of_eq rfl | exact binds_K (by k_in) rfl (by k_is) rfl rfl rfl); (case c5 => decide); (case kB => exact locs rfl); (case c2 => exact rfl); (case c3 => exact rfl); (case c4 => exact rfl); k_whole)
  intro g1 L1 h1 FG F1 N1 B1 X1 T1
  (try dsimp only)
  (try k_lift B1)
  obtain ⟨m1, F2, hm⟩ : ∃ m1, Fr g1 L1 h1 m1 ∧ (m1 (Str.ofString "text") = some (.str (mkS cs) t1) ∧ True) := ⟨_, F1, rfl, trivial⟩
  obtain ⟨hm1, _⟩ := hm
  clear F1
  (try k_fold)
  k_steps
  rename_i lm h3 ll3 h4 F4 N4
  unfold Hold
  refine for_str rfl F4 N4 [lm] (fun i m nw => m (Str.ofString "marks") = some (.ref lm) ∧ ∃ vs c, (lm, listOf vs.toArray c) ∈ nw ∧ StrsAre vs ((marksF (cs.take i)).map sgn))
    ⟨rfl, [], 0, by k_mem, .nil⟩ (by rintro i m nw nw' ⟨a, b, c, hm, r⟩ k; exact ⟨a, b, c, k _ hm (.inl rfl), r⟩) ?_ ?_
  · rintro i c u I oI m₁ nw h6 tk6 gs6 hG6 hin ⟨hp, vs', n', hmem, hst⟩ K6 hlt ho F6 N6
    have hci : cs[i]? = some c := by simpa using hin
    have hc : c < 1114112 := hcs c (List.mem_of_getElem? hci)
    have nI : I ≠ lm := Ne.symm (Nat.ne_of_lt (hlt _ (List.mem_cons_self ..)))
    have hvl : vs'.length ≤ 100000 := by
      rw [strs_len hst, List.length_map]
      have := marksF_len (cs.take i)
      simp at this
      omega
    have hany := marks_any (marksF (cs.take i)) c
    have ht : marksF (cs.take (i + 1)) = marksAdd (marksF (cs.take i)) c := by
      rw [List.take_add_one, hci]
      simp [marksF, List.foldl_append]
    k_steps
    · have ha := ‹List.any _ _ = true›
      have hx : marksAdd (marksF (cs.take i)) c = marksF (cs.take i) := if_neg fun h => h.2 (of_decide_eq_true (hany.symm.trans ha))
      exact TEnd.intro (by k_asm) (by k_asm) (List.forall_mem_cons.mpr ⟨by k_mem, fun _ h => nomatch h⟩) (by k_updF) (by exact ⟨hp, _, _, by k_mem, by rw [ht, hx]; exact hst⟩)
    · have ha := ‹List.any _ _ = false›
      have hx : marksAdd (marksF (cs.take i)) c = marksF (cs.take i) ++ [c] := if_pos ⟨decide_eq_true ‹_›, of_decide_eq_false (hany.symm.trans ha)⟩
      exact TEnd.intro (by k_asm) (by k_asm) (List.forall_mem_cons.mpr ⟨by k_mem, fun _ h => nomatch h⟩) (by k_updF) (by exact ⟨hp, _, _, by k_mem, by rw [ht, hx, List.map_append]; exact strs_snoc hst _ _⟩)
    · have hx : marksAdd (marksF (cs.take i)) c = marksF (cs.take i) := if_neg fun h => ‹¬ (65529 ≤ c ∧ c ≤ 65533)› (of_decide_eq_true h.1)
      exact TEnd.intro (by k_asm) (by k_asm) (List.forall_mem_cons.mpr ⟨by k_mem, fun _ h => nomatch h⟩) (by k_updF) (by exact ⟨hp, _, _, by k_mem, by rw [ht, hx]; exact hst⟩)
  · rintro m₁ nw h6 tk6 gs6 hG6 ⟨hp, vs', n', hmem, hst⟩ K6 F6 N6
    k_steps
    exact ret _ _ _ _ _ (by k_asm) (by k_asm) ⟨fun p hp _ => K6 p (List.mem_cons_of_mem _ hp) (by simpa using Nat.ne_of_lt (ll3 p hp)), _, _, _, rfl, hmem, by simpa using hst⟩
/-! map: a builtin over a list of strs; what join makes of it -/
theorem slot_map_init : Slot "map" "__init__" "object.__init__" :=
  .of (owner := "object") (n := "__init__") (by rw [typeLookup_type, builtinLookup_eq_fast]; kernel_rfl) (by decide +kernel) (by decide +kernel) (by decide +kernel)
    (by first | exact .inl (by decide +kernel) | exact .inr (by decide +kernel)) (by rw [isSubtype_type]; kernel_rfl)
theorem slot_map_iter : Slot "map" "__iter__" "map.__iter__" :=
  .of (owner := "map") (n := "__iter__") (by rw [typeLookup_type, builtinLookup_eq_fast]; kernel_rfl) (by decide +kernel) (by decide +kernel) (by decide +kernel)
    (by first | exact .inl (by decide +kernel) | exact .inr (by decide +kernel)) (by rw [isSubtype_type]; kernel_rfl)
theorem slot_map_next : Slot "map" "__next__" "map.__next__" :=
  .of (owner := "map") (n := "__next__") (by rw [typeLookup_type, builtinLookup_eq_fast]; kernel_rfl) (by decide +kernel) (by decide +kernel) (by decide +kernel)
    (by first | exact .inl (by decide +kernel) | exact .inr (by decide +kernel)) (by rw [isSubtype_type]; kernel_rfl)
theorem mro_map : mroOf (.type "map") = pure [.type "map", .type "object"] := by rw [mroOf_type]; kernel_rfl
theorem lookup_map_new : typeLookup (.type "map") "__new__" = pure (some (.builtin "map.__new__")) := by rw [typeLookup_type, builtinLookup_eq_fast]; kernel_rfl
theorem called_map : TypeCalled "map" "map.__new__" "object.__init__" :=
  ⟨by decide +kernel, by decide +kernel, ⟨_, _, mro_map⟩, madeBy_type mro_map lookup_map_new (by decide +kernel), by decide +kernel, by rw [isSubtype_type]; kernel_rfl, slot_map_init⟩
theorem typeCall_map (a b : Value) : checkTypeCall "map" ⟨[a, b], []⟩ = pure () := by kernel_rfl
theorem newCall_map (a b : Value) : checkBuiltinCall "map.__new__" ⟨[.type "map", a, b], []⟩ = pure () := by kernel_rfl
theorem entry_map_new : entryFor table "map.__new__" = some Builtin.«map.__new__» := entryFor_of_tree (by kernel_rfl)
theorem entry_map_next : entryFor table "map.__next__" = some Builtin.«map.__next__» := entryFor_of_tree (by kernel_rfl)
theorem entry_map_iter : entryFor table "map.__iter__" = some Builtin.«dict_keyiterator.__iter__» :=
  entryFor_alias (id' := "dict_keyiterator.__iter__") (by kernel_rfl) (by first | rfl | decide +kernel | (unfold String.splitOn; simp +decide [String.splitOnAux])) (by decide +kernel) (by kernel_rfl)
theorem owner_map : String.ofList ['m', 'a', 'p'] = "map" := by decide
theorem args_map_iter (a : Value) : argsOk "map.__iter__" ⟨[a], []⟩ := by unfold argsOk; kernel_rfl
theorem args_map_next (a : Value) : argsOk "map.__next__" ⟨[a], []⟩ := by unfold argsOk; kernel_rfl
theorem sub_map : isSubtype (.type "map") (.type "map") = pure true := by rw [isSubtype_type]; kernel_rfl
theorem map_no_len : typeLookup (.type "map") "__len__" = pure none := by rw [typeLookup_type, builtinLookup_eq_fast]; kernel_rfl
theorem map_no_hint : typeLookup (.type "map") "__length_hint__" = pure none := by rw [typeLookup_type, builtinLookup_eq_fast]; kernel_rfl
abbrev IsMap (h : Heap) (M T : Addr) (f : Value) : Prop := h.get? M = some { cls := .type "map", dict := none, data := .fields #[.ref T, f], slots := #[] }
abbrev IsOne (h : Heap) (T : Addr) (a : Value) : Prop := h.get? T = some { cls := .type "tuple", data := .seq #[a] }
abbrev mapH1 (h : Heap) (l : Addr) : Heap := h.push { cls := .type "list_iterator", data := .fields #[.ref l, .int 0 0] }
abbrev mapH2 (h : Heap) (l : Addr) : Heap := (mapH1 h l).push { cls := .type "tuple", data := .seq #[.ref h.objs.size] }
abbrev mapH3 (h : Heap) (l : Addr) (f : Value) : Heap := (mapH2 h l).push { cls := .type "map", data := .fields #[.ref (mapH1 h l).objs.size, f] }
theorem meets_map_new (f : Value) (l : Addr) (xs : Array Value) :
    Meets (Builtin.«map.__new__» ⟨[.type "map", f, .ref l], []⟩) (fun _ R s => s.heap.IsList l xs ∧ R (.ok (.ret (.ref (mapH2 s.heap l).objs.size))) { s with heap := mapH3 s.heap l f }) :=
  .of_wp fun prog w A R s h => by
    obtain ⟨hp, g, d, tk, os⟩ := s; obtain ⟨hl1, h⟩ := h
    have hsub := sub_map
    have hL1 : Heap.IsList (Shared.heap ⟨hp, g, d, tk, os⟩) l xs := hl1
    wp_walk using wpAny_pyIter_list hL1
    exact ⟨_, rfl, h⟩

section
variable {prog : Program} {w : World} {A : Around} {E : Value → Shared → Prop} {s : Shared} {l : Addr} {xs : Array Value} {f : Value}
theorem call_map {Q : Value → Shared → Prop} (hl : s.heap.IsList l xs)
    (h : ∀ M T I h', IsMap h' M T f → IsOne h' T (.ref I) → h'.IsListIter I l 0 → s.heap.objs.size ≤ I → s.heap.objs.size ≤ T → s.heap.objs.size ≤ M → (I ≠ T ∧ I ≠ M ∧ T ≠ M) → (∀ c o, s.heap.get? c = some o → h'.get? c = some o) → Q (.ref M) { s with heap := h' }) :
    wpAny (model prog w) A (call (.type "map") [f, .ref l]) Q E s := by
  refine callType_new called_map (by decide) (typeCall_map _ _) (newCall_map _ _) (fun obj => F.args_object_init_3 obj _ _) entry_map_new (meets_map_new f l xs) ⟨hl, ?_⟩
  have z1 : (mapH1 s.heap l).objs.size = s.heap.objs.size + 1 := Heap.size_push ..
  have z2 : (mapH2 s.heap l).objs.size = s.heap.objs.size + 2 := by rw [Heap.size_push, z1]
  have g3 : (mapH3 s.heap l f).get? (mapH2 s.heap l).objs.size = some _ := Heap.get?_push_size _ rfl
  have g2 : (mapH3 s.heap l f).get? (mapH1 s.heap l).objs.size = some _ := Heap.get?_push_of_some _ (Heap.get?_push_size _ rfl)
  have g1 : (mapH3 s.heap l f).get? s.heap.objs.size = some _ := Heap.get?_push_of_some _ (Heap.get?_push_of_some _ (Heap.get?_push_size _ rfl))
  show _ ∧ _
  exact ⟨⟨_, g3, rfl⟩, h _ _ _ _ g3 g2 ⟨_, g1, rfl, rfl⟩ (Nat.le_refl _) (by rw [z1]; omega) (by rw [z2]; omega) ⟨Nat.ne_of_lt (by rw [z1]; exact Nat.lt_succ_self _), Nat.ne_of_lt (by rw [z2]; exact Nat.lt_of_lt_of_le (Nat.lt_succ_self _) (Nat.le_succ _)), Nat.ne_of_lt (by rw [z1, z2]; exact Nat.lt_succ_self _)⟩ fun c o x =>
    Heap.get?_push_of_some _ (Heap.get?_push_of_some _ (Heap.get?_push_of_some _ x))⟩

theorem map_iter {M T : Addr} {Q : Value → Shared → Prop} (hz : IsMap s.heap M T f) (h : Q (.ref M) s) : wpAny (model prog w) A (pyIter (.ref M)) Q E s := by
  have hT : s.TypeIs (.ref M) "map" := ⟨_, hz, rfl⟩
  refine wpAny_pyIter_slot hT slot_map_iter (wpAny_call_entry slot_map_iter hT entry_map_iter ?_ (args_map_iter _))
  show wpAny _ _ (ret (.ref M)) _ _ s
  exact wpAny_pure ⟨_, rfl, "map", _, hT, slot_map_next.lookup, h⟩
theorem map_item {M T I : Addr} {i : Nat} {y : Str} {t : Tok} {Q : Option Value → Shared → Prop} (hz : IsMap s.heap M T (.builtin "str.capitalize")) (ho : IsOne s.heap T (.ref I)) (hi : s.heap.IsListIter I l i) (hl : s.heap.IsList l xs) (hx : xs[i]? = some (.str y t)) (hIM : I ≠ M) (hfit : y.length ≤ 1000)
    (h : ∀ t' tk h', h'.IsListIter I l (i + 1) → Heap.SameBut I s.heap h' → Q (some (.str (Txt.capitalize y) t')) { s with heap := h', toks := tk }) :
    wpAny (model prog w) A (pyNext (.ref M)) Q E s := by
  have hT : s.TypeIs (.ref M) "map" := ⟨_, hz, rfl⟩
  unfold pyNext
  refine wpAny_bind (wpAny_attempt (wpAny_callSpecial?_slot (name := Str.ofString "__next__") hT slot_map_next (wpAny_call_entry slot_map_next hT entry_map_next ?_ (args_map_next _))))
  show wpAny _ _ (field (.ref M) 0 >>= _) _ _ s
  refine wpAny_bind (wpAny_field hz rfl (x := .ref T) rfl ?_)
  refine wpAny_bind (wpAny_seqItems ho rfl ?_)
  dsimp only
  refine wpAny_bind ?_
  rw [← Array.forIn_toList]
  simp only [List.forIn_cons, List.forIn_nil]
  refine wpAny_bind (wpAny_bind (wpAny_holding (wpAny_nextOf_list_item hi hl hx fun h₂ h1₂ hs₂ => wpAny_pure (wpAny_pure ?_))))
  refine wpAny_bind (wpAny_field (hs₂.extBut _ _ (Ne.symm hIM) hz) rfl (x := .builtin "str.capitalize") rfl ?_)
  refine wpAny_bind (wpAny_holding (SCL.capitalize (by omega) fun t' k _ => ?_))
  refine wpAny_bind (wpAny_letGo ?_)
  exact wpAny_pure ⟨_, rfl, wpAny_pure (h t' k h₂ h1₂ hs₂)⟩
theorem map_end {M T I : Addr} {i : Nat} {Q : Option Value → Shared → Prop} (hh : A.handled = none) (hz : IsMap s.heap M T f) (ho : IsOne s.heap T (.ref I)) (hi : s.heap.IsListIter I l i) (hl : s.heap.IsList l xs) (hx : xs[i]? = none)
    (h : ∀ h', Heap.ExtBut I s.heap h' → Q none { s with heap := h' }) : wpAny (model prog w) A (pyNext (.ref M)) Q E s := by
  have hT : s.TypeIs (.ref M) "map" := ⟨_, hz, rfl⟩
  unfold pyNext
  refine wpAny_bind (wpAny_attempt (wpAny_callSpecial?_slot (name := Str.ofString "__next__") hT slot_map_next (wpAny_call_entry slot_map_next hT entry_map_next ?_ (args_map_next _))))
  show wpAny _ _ (field (.ref M) 0 >>= _) _ _ s
  refine wpAny_bind (wpAny_field hz rfl (x := .ref T) rfl ?_)
  refine wpAny_bind (wpAny_seqItems ho rfl ?_)
  dsimp only
  refine wpAny_bind ?_
  rw [← Array.forIn_toList]
  simp only [List.forIn_cons, List.forIn_nil]
  refine wpAny_bind (wpAny_bind (wpAny_holding (wpAny_nextOf_list_end hh hi hl hx fun h₂ e hs₂ he => ?_)))
  obtain ⟨o, hoe, hc⟩ := he
  refine wpAny_bind (wpAny_isInstance (T := "StopIteration") (b := true) ⟨o, hoe, hc⟩ isSubtype_stop ?_)
  exact wpAny_pure (h _ hs₂)
theorem map_walks {M T I : Addr} {vs : List Value} {ys : List Str} (hh : A.handled = none) (hIM : I ≠ M) (hIT : I ≠ T) (hIl : I ≠ l) (hs : StrsAre vs ys) (hfit : ∀ y ∈ ys, y.length ≤ 1000) :
    Walks prog w A M [M, T, I, l] [I] ys.length (fun i v => ∃ t, v = .str (Txt.capitalize (ys.getD i ⟨#[]⟩)) t) (fun i h => IsMap h M T (.builtin "str.capitalize") ∧ IsOne h T (.ref I) ∧ h.IsListIter I l i ∧ h.IsList l vs.toArray) where
  sub := fun b hb => by simp at hb; simp [hb]
  frame := fun i h h' st hk => ⟨hk M (by simp) _ st.1, hk T (by simp) _ st.2.1, st.2.2.1.at fun o e => hk I (by simp) o e, st.2.2.2.at fun o e => hk l (by simp) o e⟩
  item := fun i s Q E hi st hQ => by
    obtain ⟨t, ht⟩ := strs_get hs hi
    refine map_item st.1 st.2.1 st.2.2.1 st.2.2.2 (by simpa using ht) hIM (hfit (ys.getD i ⟨#[]⟩) (by rw [List.getD_eq_getElem?_getD, List.getElem?_eq_getElem hi]; exact List.getElem_mem _)) fun t' tk h' hit hsb => ?_
    exact hQ _ h' tk ⟨t', rfl⟩ ⟨hsb.extBut _ _ (Ne.symm hIM) st.1, hsb.extBut _ _ (Ne.symm hIT) st.2.1, hit, st.2.2.2.extBut hsb.extBut (Ne.symm hIl)⟩ fun b o hb e => hsb.extBut b o (fun h => hb (by simp [h])) e
  done := fun s Q E st hQ => map_end hh st.1 st.2.1 st.2.2.1 st.2.2.2 (by simp [strs_len hs]) fun h' he => hQ h' s.toks fun b o hb e => he b o (fun h => hb (by simp [h])) e
  self := fun _ _ _ _ st hQ => map_iter st.1 hQ
end
/-! join over any walk of strs; capwords -/
section
variable {prog : Program} {w : World} {A : Around} {E : Value → Shared → Prop} {s : Shared} {I : Addr} {fp wr : List Addr} {G : Array GenState → Array GenState → Prop} {n : Nat} {P : Nat → Value → Prop} {St : Nat → Shared → Prop}
theorem collect_any {T : String} {Q : List Value → Shared → Prop} (W : WalksS prog w A.in1 I fp wr G n P St) (n1 : typeLookup (.type T) "__len__" = pure none) (n2 : typeLookup (.type T) "__length_hint__" = pure none) (e2 : (Value.type T == Value.type "list") = false) (e3 : (Value.type T == Value.type "tuple") = false) (hT : ∀ i s, St i s → s.TypeIs (.ref I) T) (hst : St 0 s) (hfp : ∀ b ∈ fp, b < s.heap.objs.size) (hI : I ∈ fp)
    (hQ : ∀ s' acc, Moved wr G s s' → ItemsOf P acc n → Q acc.toList s') (hn : n ≤ sizeLine) : wpAny (model prog w) A (collect (.ref I)) Q E s := by
  have hSf : s.heap.objs.size ∉ fp := fun hm => Nat.lt_irrefl _ (hfp _ hm)
  have hSI : s.heap.objs.size ≠ I := fun e => hSf (e ▸ hI)
  unfold collect
  refine wpAny_bind (wpAny_runValue (codeAny_builtin F.entry_proto_collect ?_))
  rw [Around.under_plainId F.plain_proto_collect _]
  show wpAny _ A.in1 (newList [] >>= fun l => again (.builtin "list.__iadd__" ⟨[l, .ref I], []⟩)) _ _ s
  refine wpAny_bind (wpAny_newObj_type ?_)
  refine wpAny_pure ⟨plainId_quiet F.plain_list_iadd _, codeAny_builtin F.entry_list_iadd ?_⟩
  rw [Around.under_plainId F.plain_list_iadd _]
  have hst₁ := W.frame 0 s (s.heap.push { cls := .type "list", data := .seq ([] : List Value).toArray }) s.toks hst (Nat.le_refl _) fun b _ o e => Heap.get?_push_of_some _ e
  show wpAny _ A.in1 (Builtin.List.listExtendWith (.ref s.heap.objs.size) (.ref I) (.ref s.heap.objs.size)) _ _ _
  unfold Builtin.List.listExtendWith
  refine wpAny_bind (wpAny_typeOf (hT 0 _ hst₁) ?_)
  have h1 : Builtin.List.listSameRef (.ref s.heap.objs.size) (.ref I) = false := by simp [Builtin.List.listSameRef, hSI]
  simp only [h1, e2, e3, Bool.or_false, Bool.false_eq_true, if_false]
  refine wpAny_bind (W.self 0 _ _ _ hst₁ ?_)
  refine wpAny_bind (wpAny_holding ?_)
  unfold Builtin.List.listLengthHint
  refine wpAny_bind (wpAny_specialOf (hT 0 _ hst₁) n1 ?_)
  show wpAny _ A.in1 (specialOf (Value.ref I) (Str.ofString "__length_hint__") >>= _) _ _ _
  refine wpAny_bind (wpAny_specialOf (hT 0 _ hst₁) n2 ?_)
  refine wpAny_pure ?_
  show wpAny _ A.in1 (rule "list.extend.makes-room" >>= fun _ => Builtin.List.listTouch (.ref s.heap.objs.size) >>= fun _ =>
    again (.builtin "list.extend.loop" ⟨[.ref s.heap.objs.size, .ref I, .ref s.heap.objs.size], []⟩)) _ _ _
  refine wpAny_bind (wpAny_rule ?_)
  have hS₁ : (s.heap.push { cls := .type "list", data := .seq ([] : List Value).toArray }).get? s.heap.objs.size = some { cls := .type "list", data := .seq ([] : List Value).toArray } := Heap.get?_push_size _ rfl
  refine wpAny_bind ?_
  show wpAny _ A.in1 (updateSeq s.heap.objs.size (·.push .none) >>= fun _ => updateSeq s.heap.objs.size (·.pop)) _ _ _
  refine wpAny_bind (wpAny_updateSeq hS₁ rfl ?_)
  have hS₂ := Heap.get?_update_self (Obj.mapSeq (·.push Value.none)) hS₁ rfl
  refine wpAny_updateSeq hS₂ rfl ?_
  have hS₃ := Heap.get?_update_self (Obj.mapSeq (·.pop)) hS₂ rfl
  have oth : ∀ b o, b ≠ s.heap.objs.size → (s.heap.push { cls := .type "list", data := .seq ([] : List Value).toArray }).get? b = some o →
      (((s.heap.push { cls := .type "list", data := .seq ([] : List Value).toArray }).update s.heap.objs.size (Obj.mapSeq (·.push Value.none))).update s.heap.objs.size (Obj.mapSeq (·.pop))).get? b = some o :=
    fun b o hb e => (Heap.get?_update_other _ _ (Ne.symm hb)).trans ((Heap.get?_update_other _ _ (Ne.symm hb)).trans e)
  refine wpAny_pure ⟨plainId_quiet F.plain_extend_loop _, codeAny_extend_loopS W hn _ hSf _ n 0 _ _ _ rfl (Nat.zero_le _)
    (W.frame 0 ({ s with heap := s.heap.push { cls := .type "list", data := .seq ([] : List Value).toArray } } : Shared) _ s.toks hst₁ (Nat.le_refl _) fun b hb o e => oth b o (fun h => hSf (h ▸ hb)) e) hS₃ (ItemsOf.nil P) fun s' acc' c' hm hS' hacc => ?_⟩
  show wpAny _ A (load s.heap.objs.size >>= _) _ _ s'
  refine wpAny_bind (wpAny_load hS' ?_)
  refine wpAny_pure (hQ s' acc' (Moved.drop_new (o := { cls := .type "list", data := .seq ([] : List Value).toArray }) (tk := s.toks) (Moved.trans W.gtrans ((Moved.refl W.grefl).then_heap (by first | exact Nat.le_refl _ | exact Nat.le_succ _ | omega) fun b o hb e => ?_) hm) (Nat.le_refl _)) hacc)
  exact oth b o (fun h => hb (h ▸ List.mem_cons_self)) e
theorem join_any {T : String} {x : Str} {t : Tok} {Q : Value → Shared → Prop} (W : WalksS prog w A.in1.in1 I fp wr G n P St) (n1 : typeLookup (.type T) "__len__" = pure none) (n2 : typeLookup (.type T) "__length_hint__" = pure none) (e2 : (Value.type T == Value.type "list") = false) (e3 : (Value.type T == Value.type "tuple") = false) (hT : ∀ i s, St i s → s.TypeIs (.ref I) T) (hst : St 0 s) (hfp : ∀ b ∈ fp, b < s.heap.objs.size) (hI : I ∈ fp)
    (hstr : ∀ i v, P i v → ∃ y u, v = Value.str y u)
    (hq : ∀ s' (l : List (Str × Tok)), Moved wr G s s' → ItemsOf P (strValues l).toArray n → JoinOk x (l.map (·.1)) = true ∧ ∀ t' k, Q (.str (Txt.join x (l.map (·.1))) t') { s' with toks := k })
    (hsz : n ≤ sizeLine) : wpAny (model prog w) A (call (.builtin "str.join") [.str x t, .ref I]) Q E s := by
  refine wpAny_call (codeAny_call_builtin F.slot_str_join.plain F.entry_str_join (F.slot_str_join.check _ _ _ _ _ _ _ _ (typeIs_str _ _ _) (F.args_str_join_2 _ _) ?_))
  rw [join_tree_other]
  refine wpAny_bind (wpAny_typeOf (hT 0 s hst) ?_)
  rw [e2, e3]
  show wpAny _ A.in1 ((pyIter (.ref I)).tryCatch _ >>= fun it => collect it >>= fun items => joinTail x items) _ _ s
  refine wpAny_bind (wpAny_tryCatch (W.of_in1.self 0 s _ _ hst ?_))
  refine wpAny_bind (collect_any W n1 n2 e2 e3 hT hst hfp hI (fun s' acc hm hacc => ?_) hsz)
  obtain ⟨l, hl⟩ := exists_strValues acc.toList fun v hv => by
    obtain ⟨j, hj, rfl⟩ := Array.mem_iff_getElem.mp (Array.mem_toList_iff.mp hv)
    exact hstr j _ (hacc.2 j _ (Array.getElem?_eq_getElem hj))
  rw [← hl]
  have hacc' : ItemsOf P (strValues l).toArray n := by rw [hl]; simpa using hacc
  obtain ⟨hok, hpost⟩ := hq s' l hm hacc'
  unfold JoinOk at hok
  rw [Bool.not_eq_true'] at hok
  have g : Gives (joinTail x (strValues l)) (joinMade x l) := by
    have g0 := gives_joinTail x l hok
    cases l with
    | nil => exact g0
    | cons p r => cases r with
      | nil => exact g0
      | cons q r' => exact g0
  exact g prog w A (wants Q E) s' (post_join l ⟨joinFit_length hok, hpost⟩)
end
theorem items_strs {f : Str → Str} {ys : List Str} {l : List (Str × Tok)} (h : ItemsOf (fun i v => ∃ t, v = Value.str (f (ys.getD i ⟨#[]⟩)) t) (strValues l).toArray ys.length) : l.map (·.1) = ys.map f := by
  have hl : l.length = ys.length := by have := h.1; simpa [strValues] using this
  apply List.ext_getElem (by simp [hl])
  intro i h1 h2
  have hi : i < l.length := by simpa using h1
  obtain ⟨t, e⟩ := h.2 i (.str l[i].1 l[i].2) (by simp [strValues, List.getElem?_eq_getElem hi])
  have e1 : l[i].1 = f (ys.getD i ⟨#[]⟩) := by injection e
  have hy : i < ys.length := by omega
  simp [e1, List.getD_eq_getElem?_getD, List.getElem?_eq_getElem hy]
theorem capFound : findCls [] (.type "str") (.type "type") (PySem.Str.ofString "capitalize") = some (.val (.builtin "str.capitalize")) := by kernel_rfl
theorem attr_cap {w : World} {s : Shared} {A : Around} {E : Value → Shared → Prop} {Q : Value → Shared → Prop} {expr : Bool} (h : Q (.builtin "str.capitalize") { s with toks := s.toks + 1 }) :
    wpAny (model PG w) A (getAttr (.type "str") (PySem.Str.ofString "capitalize") expr) Q E s := by
  have ht : typeOf (.type "str") = pure (.type "type") := by first | rfl | kernel_rfl
  have hstub : opaqueClassAbove (.type "str") = pure none := by unfold opaqueClassAbove; dsimp only; rw [show Manifest.isStub "str" = false by decide +kernel]; rfl
  have L0 : Looks (model PG w) s.heap (typeOf (.type "str")) (.type "type") := Looks.of_pure ht
  have LO : Looks (model PG w) s.heap (opaqueClassAbove (.type "str")) none := Looks.of_pure hstub
  have hg : findIn [] (.type "type") "__getattribute__" = some (some (.builtin "type.__getattribute__")) := type_tga
  have X : Frag.In [] s.heap := fun a o h => nomatch h
  refine cls_open (r := .val (.builtin "str.capitalize")) X LO L0 hg (looks_hook X (r := none) (by rfl)) (by show subIn [] _ _ = _; rfl) (by exact capFound) ?_
  exact wpAny_pure (by show wpAny _ _ (handedOut _) _ _ _; rw [handedOut_of (by decide +kernel)]; exact wpAny_pure h)
theorem joinOk_count' {sep : Str} {xs : List Str} {f : Str → Str} (h : JoinOk sep (xs.map f) = true) (h2 : sep.cps.size = 1) : xs.length ≤ sizeLine := by
  have := joinOk_count h (by show 1 ≤ sep.cps.size; omega)
  simpa using this
set_option maxHeartbeats 0 in
theorem cap_spec {w : World} {news : Led} {s1 s2 : Str} {t1 t2 : Tok} (h2 : s2.cps.size = 1) (h1 : s1.cps.size ≤ 1000)
   (hfit : ∀ y ∈ Txt.split s1 s2, y.length ≤ 1000) (hok : JoinOk s2 ((Txt.split s1 s2).map Txt.capitalize) = true) :
   Spec 7 w 22 [.str s1 t1, .str s2 t2] news (fun v news' => Keep [] news news' ∧ ∃ t, v = .str (Txt.join s2 ((Txt.split s1 s2).map Txt.capitalize)) t) := by
  intro p loose mean mg mb dp un gd cn cs' L a ccd cl outer A₀ base h₀ m s Q E B F X N T X24 hk hdp hun ret
  refine wpAny_call ?_
  k_dflt (refine' code_def ?k1 ?k2 ?k3 ?k4 ?k5 ?kA ?kF ?kK ?k6 ?k7 ?k8 ?k9 ?kB ?_ ?c2 ?c3 ?c4 ?c5; (case kA => exact rfl); (case kF => exact rfl); (case kK => first | assumption | exact rfl); (case k1 => k_asm); (case k2 => k_asm); (case k3 => k_asm); (case k4 => k_asm); (case k5 => k_asm); (case k6 => k_is); (case k7 => k_is); (case k8 => k_room); (case k9 => first | exact BindsTo.of_eq rfl | exact binds_K (by k_in) rfl (by k_is) rfl rfl rfl); (case c5 => decide); (case kB => exact locs rfl); (case c2 => exact rfl); (case c3 => exact rfl); (case c4 => exact rfl); k_whole)
  intro g1 L1 h1 FG F1 N1 B1 X1 T1
  (try dsimp only)
  (try k_lift B1)
  obtain ⟨m1, F2, hm⟩ : ∃ m1, Fr g1 L1 h1 m1 ∧ (m1 (Str.ofString "s") = some (.str s1 t1) ∧ m1 (Str.ofString "sep") = some (.str s2 t2) ∧ True) := ⟨_, F1, rfl, rfl, trivial⟩
  obtain ⟨hm1, hm2, _⟩ := hm
  clear F1
  (try k_fold)
  have hs : ¬ s2.length = 0 := by show ¬ s2.cps.size = 0; omega
  k_steps
  rename_i hs2
  refine P.truthy_str (by show ¬ ((s2.cps.size : Int) ≥ 2 ^ 63); omega) ?_
  rw [show (((s2.length : Int) != 0) = true) from by simpa using hs]
  rw [if_pos rfl]
  k_steps
  refine attr_cap ?_
  k_steps
  refine KSpl.split1 (by k_asm) (by k_asm) (by show (s2.cps.size == 0) = false; rw [h2]; rfl) ?_ (le_sizeLine (by show s1.cps.size + 2 ≤ 100000; omega))
  intro D l h3 k3 el hs3 F3 N3 l3
  k_steps
  have hl3 := lst_is N3 (by k_mem)
  refine call_map hl3 fun M T I h4 hM hT hI0 zI zT zM hne keep => ?_
  have zI : h3.objs.size ≤ I := zI
  k_steps
  have hsplit : StrsAre (strValues l) (Txt.split s1 s2) := by rw [← el]; exact hs3
  have hIl : I ≠ D := fun e => by have hd3 : D < h3.objs.size := Heap.lt_size (N3 _ (by k_mem)).1; rw [← e] at hd3; exact Nat.lt_irrefl _ (Nat.lt_of_lt_of_le hd3 zI)
  have hlen : (Txt.split s1 s2).length ≤ sizeLine := joinOk_count' hok h2
  refine join_any (T := "map") (map_walks (by rfl) hne.2.1 hne.1 hIl hsplit hfit).toS map_no_len map_no_hint (by decide) (by decide) (fun i s st => ⟨_, st.1, rfl⟩) ⟨hM, hT, hI0, hl3.at (fun o e => keep _ _ e)⟩ ?_ (by simp) (fun i v hv => by obtain ⟨t, e⟩ := hv; exact ⟨_, _, e⟩) (fun s' l' mv it => ?_) hlen
  case refine_1 =>
    intro b hb
    simp only [List.mem_cons, List.not_mem_nil, or_false] at hb
    rcases hb with rfl | rfl | rfl | rfl
    · exact Heap.lt_size hM
    · exact Heap.lt_size hT
    · obtain ⟨o, ho, _⟩ := hI0; exact Heap.lt_size ho
    · exact Heap.lt_size (keep _ _ (N3 _ (by k_mem)).1)
  have el' := items_strs it
  refine ⟨by rw [el']; exact hok, fun t' k => ?_⟩
  rw [el']
  obtain ⟨h5, g5, d5, t5, o5⟩ := s'
  obtain ⟨hk5, hg5, hd5, ho5, _⟩ := mv
  dsimp only at hk5 hg5 hd5 ho5
  subst hg5 hd5 ho5
  have keep5 : ∀ c o, h3.get? c = some o → h5.get? c = some o := fun c o e => hk5 c o (fun h => by have hc : c < h3.objs.size := Heap.lt_size e; rw [List.mem_singleton.mp h] at hc; exact Nat.lt_irrefl _ (Nat.lt_of_lt_of_le hc zI)) (keep c o e)
  have F5 := F3.keeps keep5
  have N5 := N3.keeps keep5
  k_steps
  exact ret _ _ _ _ _ (by k_asm) (by k_asm) ⟨by k_updF, _, rfl⟩
/-! pairs of texts in the ledger; _law_row -/
abbrev pairO (a b : Str) (t u : Tok) : Obj := { cls := .type "tuple", data := .seq #[.str a t, .str b u] }
def PairsIn (nw : Led) (vs : List Value) (xs : List (Str × Str)) : Prop := vs.length = xs.length ∧ ∀ (i : Nat) (p : Str × Str), xs[i]? = some p → ∃ (q : Addr) (t u : Tok), vs[i]? = some (Value.ref q) ∧ (q, pairO p.1 p.2 t u) ∈ nw
theorem PairsIn.nil {nw : Led} : PairsIn nw [] [] := ⟨rfl, fun i p h => by simp at h⟩
theorem PairsIn.mono {nw nw' : Led} {vs : List Value} {xs : List (Str × Str)} (h : PairsIn nw vs xs) (k : ∀ p ∈ nw, tupO p → p ∈ nw') : PairsIn nw' vs xs :=
  ⟨h.1, fun i p e => by obtain ⟨q, t, u, e1, e2⟩ := h.2 i p e; exact ⟨q, t, u, e1, k _ e2 ⟨rfl, _, _, rfl⟩⟩⟩
theorem PairsIn.snoc {nw : Led} {vs : List Value} {xs : List (Str × Str)} {q : Addr} {a b : Str} {t u : Tok} (h : PairsIn nw vs xs) (hq : (q, pairO a b t u) ∈ nw) : PairsIn nw (vs ++ [.ref q]) (xs ++ [(a, b)]) := by
  refine ⟨by simp [h.1], fun i p e => ?_⟩
  rcases Nat.lt_or_ge i xs.length with hi | hi
  · rw [List.getElem?_append_left hi] at e
    obtain ⟨q', t', u', e1, e2⟩ := h.2 i p e
    exact ⟨q', t', u', by rw [List.getElem?_append_left (by rw [h.1]; exact hi)]; exact e1, e2⟩
  · rw [List.getElem?_append_right hi] at e
    have hi0 : i - xs.length = 0 := by
      rcases Nat.eq_zero_or_pos (i - xs.length) with h | h
      · exact h
      · rw [List.getElem?_eq_none (by simp; omega)] at e; cases e
    rw [hi0] at e
    simp at e
    subst e
    exact ⟨q, t, u, by rw [List.getElem?_append_right (by rw [h.1]; exact hi), h.1, hi0]; rfl, hq⟩
theorem PairsIn.drop {nw : Led} {vs : List Value} {xs : List (Str × Str)} (h : PairsIn nw vs xs) (k : Nat) : PairsIn nw (vs.drop k) (xs.drop k) :=
  ⟨by simp [h.1], fun i p e => by rw [List.getElem?_drop] at e; obtain ⟨q, t, u, e1, e2⟩ := h.2 _ p e; exact ⟨q, t, u, by rw [List.getElem?_drop]; exact e1, e2⟩⟩
theorem PairsIn.take {nw : Led} {vs : List Value} {xs : List (Str × Str)} (h : PairsIn nw vs xs) (k : Nat) : PairsIn nw (vs.take k) (xs.take k) :=
  ⟨by simp [h.1], fun i p e => by
    rw [List.getElem?_take] at e
    split at e
    · rename_i hi; obtain ⟨q, t, u, e1, e2⟩ := h.2 _ p e; exact ⟨q, t, u, by rw [List.getElem?_take, if_pos hi]; exact e1, e2⟩
    · cases e⟩
theorem PairsIn.get {nw : Led} {vs : List Value} {xs : List (Str × Str)} (h : PairsIn nw vs xs) {i : Nat} (hi : i < xs.length) : ∃ (q : Addr) (t u : Tok), vs[i]? = some (Value.ref q) ∧ (q, pairO (xs.getD i (⟨#[]⟩, ⟨#[]⟩)).1 (xs.getD i (⟨#[]⟩, ⟨#[]⟩)).2 t u) ∈ nw := by
  have := h.2 i xs[i] (List.getElem?_eq_getElem hi)
  rw [List.getD_eq_getElem?_getD, List.getElem?_eq_getElem hi]
  exact this
def capS (s1 s2 : Str) : Str := Txt.join s2 ((Txt.split s1 s2).map Txt.capitalize)
structure CapOk (s1 s2 : Str) : Prop where
  one : s2.cps.size = 1
  len : s1.cps.size ≤ 1000
  fit : ∀ y ∈ Txt.split s1 s2, y.length ≤ 1000
  ok : JoinOk s2 ((Txt.split s1 s2).map Txt.capitalize) = true
  out : (capS s1 s2).cps.size ≤ 1000
theorem capw_spec {w : World} {news : Led} {s1 s2 : Str} {t1 t2 : Tok} (h : CapOk s1 s2) : Spec 7 w 22 [.str s1 t1, .str s2 t2] news (fun v news' => Keep [] news news' ∧ ∃ t, v = .str (capS s1 s2) t) := cap_spec h.one h.len h.fit h.ok
def isUp (c : Nat) : Bool := decide (65 ≤ c ∧ c ≤ 90)
theorem rules_18_1 : True := by
  (k_with "call ref" => ((k_here; (with_reducible show wpAny _ _ (call (Value.ref 22) _) _ _ _); k_dflt (refine' Spec.use (capw_spec ?z0s1) ?sB ?sF ?sX ?sN ?sT ?s24 ?sK ?sD ?sU ?_; k_extra "x_inv"; (case z0s1 => with_reducible assumption); k_whole); intro _ _ _ _ _ _ _ _ hR9; (obtain ⟨_, _, e9⟩ := hR9); subst e9; (try k_sweep))))
  trivial
theorem lt_sgn {a b : Nat} : (({ cps := #[a] } : Str).cps.toList < ({ cps := #[b] } : Str).cps.toList) ↔ a < b := by
  show [a] < [b] ↔ a < b
  constructor
  · intro h
    cases h with
    | rel h => exact h
    | cons h => cases h
  · exact fun h => List.Lex.rel h
def rowF (s1 s2 : Str) (n : Nat) : List (Str × Str) := (((capS s1 s2).cps.toList.take n).filter isUp).map fun c => (s2, sgn c)
set_option maxHeartbeats 0 in
theorem row_spec {w : World} {news : Led} {s1 s2 : Str} {t1 t2 : Tok} (hc : CapOk s1 s2) :
   Spec 8 w 156 [.str s1 t1, .str s2 t2] news (fun v news' => Keep [] news news' ∧ ∃ l c vs, v = .ref l ∧ (∀ p ∈ news, p.1 < l) ∧ (l, listOf vs.toArray c) ∈ news' ∧ PairsIn news' vs (rowF s1 s2 1000)) := by
  intro p loose mean mg mb dp un gd cn cs' L a ccd cl outer A₀ base h₀ m s Q E B F X N T X24 hk hdp hun ret
  refine wpAny_call ?_
  k_dflt (refine' code_defC ?k1 ?k2 ?k3 ?k4 ?k5 ?kA ?kF ?kK ?k6 ?k7 ?k8 ?k9 ?kB ?kD ?_ ?c2 ?c3 ?c4; (case kA => exact rfl); (case kF => exact rfl); (case kK => first | assumption | exact rfl); (case k1 => k_asm); (case k2 => k_asm); (case k3 => k_asm); (case k4 => k_asm); (case k5 => k_asm); (case k6 => k_is); (case k7 => k_is); (case k8 => k_room); (case k9 => first | exact BindsTo.of_eq rfl | exact binds_K (by k_in) rfl (by k_is) rfl rfl rfl); (case kB => exact rfl); (case kD => decide +kernel); (case c2 => exact rfl); (case c3 => exact rfl); (case c4 => exact rfl); k_whole)
  intro g1 L1 h1 tk1 cells FG F1 N1 Y1 B1 X1 T1 l1
  obtain ⟨oc1, hE, d1⟩ := CellsAre.one Y1
  subst hE; clear Y1
  simp only [List.cons_append, List.nil_append] at N1
  (try dsimp only)
  (try k_lift B1)
  obtain ⟨m1, F2, hm⟩ : ∃ m1, Fr g1 L1 h1 m1 ∧ (m1 (Str.ofString "text") = some (.str s1 t1) ∧ True) := ⟨_, F1, rfl, trivial⟩
  obtain ⟨hm1, _⟩ := hm
  clear F1
  (try k_fold)
  replace d1 : oc1.data = .cell (some (.str s2 t2)) := d1
  k_steps
  rename_i news9 h9 tk9 gs9 hG9 F9 N9 K9 t9
  have hs2 : s2 = ⟨s2.cps⟩ := rfl
  unfold Hold
  refine lc_str rfl rfl rfl (le_sizeLine (Nat.le_trans hc.out (by omega))) F9 N9 (fun i ys nw => PairsIn nw ys (rowF s1 s2 i)) .nil (fun i ys nw nw' h k => h.mono k) ?_ ?_
  · intro i c u ys nw m₂ C oC D I oI h10 tk11 E' hi hm hJ hK2 hlt2 hC F10 N10
    refine wpAny_tests_one ?_
    have hr : rowF s1 s2 (i + 1) = rowF s1 s2 i ++ (if isUp c = true then [(s2, sgn c)] else []) := by
      unfold rowF
      rw [List.take_add_one, Array.getElem?_toList, hi]
      by_cases hu : isUp c = true <;> simp [List.filter_append, hu]
    k_steps
    · rename_i a1
      have hu : ¬ isUp c = true := by simp [isUp]; have : c < 65 := (lt_sgn (b := 65)).mp a1; omega
      exact LcEnd.intro (by k_asm) (by k_asm) (fun p hp => List.mem_append_left nw hp) (by k_updF) (by rw [hr, if_neg hu, List.append_nil]; exact hJ.mono fun p hp _ => List.mem_append_right _ hp)
    · rename_i a1 a2
      have hu : ¬ isUp c = true := by simp [isUp]; have : 90 < c := (lt_sgn (a := 90)).mp a2; omega
      exact LcEnd.intro (by k_asm) (by k_asm) (fun p hp => List.mem_append_left nw hp) (by k_updF) (by rw [hr, if_neg hu, List.append_nil]; exact hJ.mono fun p hp _ => List.mem_append_right _ hp)
    · rename_i a1 a2 D2 h12 F12 N12 l12
      have hu : isUp c = true := by simp [isUp]; have h1 : ¬ c < 65 := mt (lt_sgn (b := 65)).mpr a1; have h2 : ¬ 90 < c := mt (lt_sgn (a := 90)).mpr a2; omega
      exact LcEnd.intro (by k_asm) (by k_asm) (fun p hp => List.mem_cons_of_mem _ (List.mem_append_left nw hp)) (by k_updF) (by rw [hr, if_pos hu]; exact (hJ.mono fun p hp _ => List.mem_cons_of_mem _ (List.mem_append_right _ hp)).snoc (List.mem_cons_self ..))
  · intro D h10 tk11 ys nw2 hD hK2 hJ F11 N11
    k_steps
    refine ret _ _ _ _ _ (by k_asm) (by k_asm) ⟨?_, _, _, ys, rfl, ?_, List.mem_cons_self .., ?_⟩
    · exact fun p hp _ => List.mem_cons_of_mem _ (hK2.mem0 (K9.mem0 (List.mem_cons_of_mem _ hp)))
    · exact fun p hp => hD p (K9.mem0 (List.mem_cons_of_mem _ hp))
    · have e : rowF s1 s2 (capS s1 s2).cps.size = rowF s1 s2 1000 := by
        unfold rowF
        rw [List.take_of_length_le (by simp), List.take_of_length_le (by simpa using hc.out)]
      rw [← e]
      exact hJ.mono fun p hp _ => List.mem_cons_of_mem _ hp
/-! a new _Accumulator -/
abbrev accNew (dx : Addr) : Obj := { cls := .ref 114, dict := some dx, data := .seq #[] }
structure MakesL (M : Model) (h : Heap) : Prop where
  obj : ∃ oc od cd sl, h.get? 114 = some ⟨oc, od, .cls cd, sl⟩ ∧ cd.hasDel = false ∧ cd.mro.isEmpty = false
  made : Looks M h (Bind.madeBy (.ref 114)) (some "list.__new__")
  base : Looks M h (Bind.staticBase (.ref 114)) (.ref 114)
  self : Looks M h (isSubtype (.ref 114) (.ref 114)) true
  top : Looks M h (isSubtype (.ref 114) (.type "list")) true
  call : Looks M h (specialOf (.ref 114) "__call__") (some (.builtin "type.__call__"))
  typ : Looks M h (isInstance (.ref 114) (.type "type")) true
theorem makesL_of {K : Frag} {M : Model} {h : Heap} (X : K.In h) {oc : Value} {od : Option Addr} {cd : ClassData} {sl : Array (Option Value)} (ho : K.lookup 114 = some ⟨oc, od, .cls cd, sl⟩) (e2 : cd.hasDel = false) (e3 : (sl.toList[4]?).join = some (.builtin "list.__new__")) (e4 : cd.mro.isEmpty = false) (e5 : cd.mro.contains (.ref 114) = true) (e6 : cd.mro.contains (.type "list") = true)
    (e7 : specialIn K (.ref 114) "__call__" = some (some (.builtin "type.__call__"))) (e8 : instIn K (.ref 114) (.type "type") = some true) : MakesL M h := by
  have hc : clsIn K 114 = some cd := by unfold clsIn; rw [ho]
  have hm : Looks M h (mroOf (.ref 114)) cd.mro := (looks_clsIn X hc).andThen .now
  obtain ⟨c, l, hl⟩ : ∃ c l, cd.mro = c :: l := by cases q : cd.mro with | nil => rw [q] at e4; cases e4 | cons c l => exact ⟨c, l, rfl⟩
  have made : Looks M h (Bind.madeBy (.ref 114)) (some "list.__new__") := by
    intro A Q E s k q
    unfold Bind.madeBy
    refine wpAny_bind (hm A _ E s k ?_)
    rw [hl, List.forIn_cons]
    refine wpAny_bind (wpAny_bind (wpAny_bind (wpAny_bind (wpAny_loadPart (k _ _ (X _ _ ho)) (wpAny_pure ?_)))))
    dsimp only
    rw [← Array.getElem?_toList, e3]
    exact wpAny_pure (wpAny_pure (wpAny_pure q))
  refine ⟨⟨oc, od, cd, sl, X _ _ ho, e2, e4⟩, made, ?_, looks_mroIn X ?_, looks_mroIn X ?_, looks_specialIn X e7, looks_instIn X e8⟩
  · intro A Q E s k q
    unfold Bind.staticBase
    refine wpAny_bind (hm A _ E s k ?_)
    rw [hl, List.forIn_cons]
    exact wpAny_bind (wpAny_bind (wpAny_bind (made A _ E s k (wpAny_pure (wpAny_pure (wpAny_pure q))))))
  · unfold mroIn; rw [hc, Option.bind_some, if_neg (by rw [e4]; decide), e5]
  · unfold mroIn; rw [hc, Option.bind_some, if_neg (by rw [e4]; decide), e6]
theorem ln_kind : builtinKind "list.__new__" = some .builtinFn := by decide +kernel
theorem ln_split : splitId "list.__new__" = some ("list", "__new__") := by decide +kernel
theorem ln_args (a : Value) : argsOk "list.__new__" ⟨.ref 114 :: [a], []⟩ := by unfold argsOk; kernel_rfl
section
variable {prog : Program} {w : World} {A : Around} {R : Result → Shared → Prop} {h : Heap} {g : Array GenState} {d : Drawn} {t : Nat} {os : OsState}
theorem new_list {a : Value} (Y : MakesL (model prog w) h)
    (hq : R (.ok (.ret (.ref (h.objs.size + 1)))) ⟨(h.push emptyDict).push (accNew h.objs.size), g, d, t, os⟩) :
    codeAny (model prog w) A (.call (.builtin "list.__new__") ⟨[.ref 114, a], []⟩) R ⟨h, g, d, t, os⟩ := by
  obtain ⟨⟨oc, od, cd, sl, hC, e2, e4⟩, made, base, self, top, call, typ⟩ := Y
  refine codeAny_call_builtin_code (Code.quiet_builtin _ (by decide +kernel)) ?_
  simp only [checkBuiltinCall, ln_kind, ln_split]
  have ha := ln_args a
  unfold argsOk at ha
  obtain ⟨sig, hsig⟩ : ∃ sig, Manifest.signature? "list.__new__" = some sig := ⟨_, rfl⟩
  rw [hsig] at ha ⊢
  have ha : Bind.checkArgs "list.__new__" sig { pos := [Value.ref 114, a] } = pure () := ha
  simp only [ha, beq_self_eq_true, if_true]
  repeat (first | simp only [bne_self_eq_false, Bool.not_true, Bool.false_eq_true, if_false] | lk)
  refine codeAny_builtin_stack F.entry_list_new rfl fun p st => ?_
  rw [Around.under_plainId F.plain_list_new _]
  have hown := owner_list_new
  simp only [hown]
  show wpAny _ A.in1 (isType (.ref 114) >>= _) _ _ _
  repeat (first | simp only [Bool.not_true, Bool.false_eq_true, if_false] | lk)
  refine wpAny_load (Heap.get?_push_of_some _ (Heap.get?_push_of_some _ hC)) (wpAny_pure ?_)
  rw [e2]
  refine wpAny_pure (wpAny_pure ?_)
  show R _ _
  rw [Heap.size_push]
  exact hq
theorem newL_core {a init : Value} (Y : MakesL (model prog w) h) (hi : Looks (model prog w) h (typeLookup (.ref 114) "__init__") (some init))
    (hb : ∀ self, Looks (model prog w) h (bindSpecial init self) (init, [self]))
    (hq : codeAny (model prog w) (A.under (.builtin "type.__call__" ⟨[.ref 114, a], []⟩)) (.call init ⟨[.ref (h.objs.size + 1), a], []⟩) (InitBack (h.objs.size + 1) R) ⟨(h.push emptyDict).push (accNew h.objs.size), g, d, t, os⟩) :
    codeAny (model prog w) A (.call (.ref 114) ⟨[a], []⟩) R ⟨h, g, d, t, os⟩ := by
  have Y' := Y
  obtain ⟨⟨oc, od, cd, sl, hC, e2, e4⟩, made, base, self, top, call, typ⟩ := Y
  refine codeAny_of_tree ?_
  show wpAny _ _ (callAny (.ref 114) _) _ _ _
  refine nd_load hC ?_
  show wpAny _ _ (callAny.viaDunder (.ref 114) _) _ _ _
  unfold callAny.viaDunder
  refine wpAny_bind (call.at ?_)
  dsimp only
  rw [tc_bind]
  refine wpAny_bind (wpAny_pure (wpAny_bind (wpAny_pure ?_)))
  refine wpAny_pure (a := Fin.again (.call (.builtin "type.__call__") ⟨[.ref 114, a], []⟩)) (And.intro rfl ?_)
  refine codeAny_call_builtin_at (Code.quiet_builtin _ (by decide +kernel)) entry_typeCall (check_slot tc_kind tc_split typ (tc_args _ _ _) ?_)
  unfold Builtin.«type.__call__»
  have hm : Looks (model prog w) h (mroOf (.ref 114)) cd.mro := ((Looks.ld (part := none) hC).andThen .now).andThen .now
  repeat (first | simp only [e4, Bool.false_eq_true, if_false] | with_reducible refine wpAny_call ?_ | lk)
  refine new_list Y' ?_
  have k : ∀ b o, h.get? b = some o → ((h.push emptyDict).push (accNew h.objs.size)).get? b = some o := fun b o e => Heap.get?_push_of_some _ (Heap.get?_push_of_some _ e)
  have hx : ((h.push emptyDict).push (accNew h.objs.size)).get? (h.objs.size + 1) = some (accNew h.objs.size) := by heap_get
  have t1 : Looks (model prog w) ((h.push emptyDict).push (accNew h.objs.size)) (typeOf (.ref (h.objs.size + 1))) (.ref 114) := (Looks.ld hx).andThen .now
  have s1 := self.keeps k
  have i1 := hi.keeps k
  have b1 := (hb (.ref (h.objs.size + 1))).keeps k
  unfold isInstance callSpecial? specialOf
  repeat (first | with_reducible refine wpAny_call ?_ | lk)
  refine codeAny_mono hq fun r s' z => ?_
  rcases r with e | (v | _ | _ | _) <;> first | exact z | exact z.elim | skip
  obtain ⟨rfl, z⟩ := z
  exact wpAny_pure (wpAny_pure z)
end
section
variable {w : World} {A : Around} {E : Value → Shared → Prop} {s : Shared} {h₀ : Heap} {L : Addr} {m : Str → Option Value} {news : Led} {prog : Program} {Q : Value → Shared → Prop}
theorem call_acc {a : Value} {fI : Addr} (F : Fr h₀ L s.heap m) (X₀ : (hd.heap_39 w.params).In h₀) (N : News h₀ L s.heap news) (hi : findIn (hd.heap_39 w.params) (.ref 114) "__init__" = some (some (.ref fI))) (hf : isFn (hd.heap_39 w.params) (.ref fI) = true)
    (h : ∀ x dx h', Fr h₀ L h' m → News h₀ L h' ((x, accO dx #[] 0) :: (dx, dictOf [] 0) :: news) → (∀ p ∈ news, p.1 < dx) → dx < x →
      codeAny (model prog w) (A.under (.builtin "type.__call__" ⟨[.ref 114, a], []⟩)) (.call (.ref fI) ⟨[.ref x, a], []⟩) (InitBack x fun r s' => match r with | .ok (.ret v) => Q v s' | .ok _ => False | .error e => E e s') { s with heap := h' }) :
    wpAny (model prog w) A (call (.ref 114) [a] []) Q E s := by
  obtain ⟨hh, g, d, t, os⟩ := s
  have X := X₀.keeps F.keep
  have Y : MakesL (model prog w) hh := makesL_of X (by k_is) rfl rfl rfl (by rfl) (by rfl) (by k_is) (by k_is)
  refine wpAny_call (newL_core Y (looks_findIn X hi) (fun self => bind_fn X self (beq_iff_eq.mp hf)) (h _ hh.objs.size _ ((F.push _).push _) ?_ (fun p hp => Heap.lt_size (N p hp).1) (Nat.lt_succ_self _)))
  have := (N.push F emptyDict).push (F.push _) (accNew hh.objs.size)
  rwa [Heap.size_push] at this
end
section
variable {w : World} {A : Around} {E : Value → Shared → Prop} {s : Shared} {h₀ : Heap} {L x dx : Addr} {m : Str → Option Value} {news : Led} {prog : Program} {items : Array Value} {n : Nat}
theorem acc_newsize' {k' : Int} {t' : Tok} {Q : Unit → Shared → Prop} (F : Fr h₀ L s.heap m) (X : (hd.heap_39 w.params).In h₀) (N : News h₀ L s.heap news) (hx : (x, accO dx items n) ∈ news) (hdx : (dx, dictOf [] 0) ∈ news)
    (h : ∀ hh tk h', Fr h₀ L h' m → News h₀ L h' (updL dx (sizeO hh tk k' t') news) → Q () { s with heap := h', toks := s.toks + 2 }) :
    wpAny (model prog w) A (setAttr (.ref x) (Str.ofString "_initial_size") (.int k' t')) Q E s := acc_newsize F X N hx hdx fun h' F' N' => h _ _ h' F' N'
end
theorem rules_19_1 : True := by
  (k_with "wpAt" => ((ks_step "exec Expr"; k_dflt (refine ks_wpAt_Expr_any ?_))))
  trivial
set_option maxHeartbeats 0 in
theorem new_spec {w : World} {news : Led} {k : Int} {t : Tok} :
   Spec 5 w 114 [.int k t] news (fun v news' => Keep [] news news' ∧ ∃ x dx n hh tk t', v = .ref x ∧ (∀ p ∈ news, p.1 < dx) ∧ dx < x ∧ (x, accO dx #[] n) ∈ news' ∧ (dx, sizeO hh tk k t') ∈ news') := by
  intro p loose mean mg mb dp un gd cn cs' L a ccd cl outer A₀ base h₀ m s Q E B F X N T X24 hk hdp hun ret
  refine call_acc (fI := 51) F X N (by k_is) (by k_is) ?_
  intro x dx h2 F2 N2 la l2
  k_dflt (refine' ks_code_super ?k1 ?k2 ?k3 ?k4 ?k5 ?kA ?kF ?kK ?k6 ?k7 ?k8 ?k9 ?kB ?_ ?c1 ?c2 ?c3 ?c4; (case kA => exact rfl); (case kF => exact rfl); (case kK => first | assumption | exact rfl); (case k1 => k_asm); (case k2 => k_asm); (case k3 => k_asm); (case k4 => k_asm); (case k5 => k_asm); (case k6 => k_is); (case k7 => k_is); (case k8 => k_room); (case k9 => exact binds_K (by k_in) rfl (by k_is) rfl rfl rfl); (case kB => exact locs rfl); (case c1 => decide); (case c2 => exact rfl); (case c3 => exact rfl); (case c4 => exact rfl); intro g' L' h' FG' F' N' B' X' T' l1; (try dsimp only); (try k_lift B'))
  k_steps
  have F3 := F'
  have N3 := N'
  clear F' N'
  have hne : x ≠ dx := Ne.symm (Nat.ne_of_lt l2)
  have hnd : ∀ p ∈ news, p.1 ≠ dx := fun p hp => Nat.ne_of_lt (la p hp)
  refine acc_newsize' F3 X' N3 (List.mem_cons_self ..) (by k_mem) fun hh0 tk0 h4 F4 N4 => ?_
  k_steps
  refine ret _ _ _ _ _ (by k_asm) (by k_asm) ⟨fun p hp _ => ?_, x, dx, _, hh0, tk0, t, rfl, la, l2, by k_mem, by k_mem⟩
  have h1 : p.1 ≠ x := Nat.ne_of_lt (Nat.lt_trans (la p hp) l2)
  have h2 := hnd p hp
  k_mem
/-! generators over an _Accumulator: the code's table, the walk, sum with a start -/
abbrev tabO (ps : Array Value) : Obj := { cls := .none, data := .fields ps }
theorem WalksS.shift {prog : Program} {w : World} {A : Around} {I : Addr} {fp wr : List Addr} {G : Array GenState → Array GenState → Prop} {n : Nat} {P : Nat → Value → Prop} {St : Nat → Shared → Prop} (W : WalksS prog w A I fp wr G n P St) :
    WalksS prog w A I fp wr G (n + 1) (fun i v => 0 < i ∧ P (i - 1) v) (fun i s => 0 < i ∧ St (i - 1) s) where
  sub := W.sub
  grefl := W.grefl
  gtrans := W.gtrans
  frame := fun i s h' tk st htk hk => ⟨st.1, W.frame (i - 1) s h' tk st.2 htk hk⟩
  item := fun i s Q E hi st hQ => W.item (i - 1) s Q E (by have := st.1; omega) st.2 fun v s' hP st' hm => hQ v s' ⟨st.1, hP⟩ ⟨by omega, by have e : i - 1 + 1 = i + 1 - 1 := (by have := st.1; omega); rw [← e]; exact st'⟩ hm
  done := fun s Q E st hQ => W.done s Q E st.2 hQ
  self := fun i s Q E st hQ => W.self (i - 1) s Q E st.2 hQ
def startV (k : Int) (val : Nat → Int) : Nat → Int
  | 0 => k
  | j + 1 => val j
theorem preSum_start (k : Int) (val : Nat → Int) : ∀ n, preSum (startV k val) (n + 1) = k + preSum val n
  | 0 => by simp [preSum, startV]
  | n + 1 => by rw [preSum, preSum_start k val n]; simp [preSum, startV]; omega
section
variable {prog : Program} {w : World} {A : Around} {E : Value → Shared → Prop} {s : Shared}
theorem sum_start {I : Addr} {fp wr : List Addr} {G : Array GenState → Array GenState → Prop} {n : Nat} {P : Nat → Value → Prop} {St : Nat → Shared → Prop} {val : Nat → Int} {k : Int} {t : Tok} {Q : Value → Shared → Prop}
    (W : WalksS prog w A.in1 I fp wr G n P St) (hst : St 0 s) (hfp : ∀ b ∈ fp, b < s.heap.objs.size) (hval : ∀ i v, P i v → ∃ t, v = .int (val i) t) (hk : InLong k) (hf : ∀ j, j < n → InLong (val j) ∧ InLong (k + preSum val (j + 1)))
    (hQ : ∀ s' t', Moved wr G s s' → Q (.int (k + preSum val n) t') s') : wpAny (model prog w) A (call (.builtin "sum") [.ref I, .int k t]) Q E s := by
  refine call_function_tree F.kind_sum F.plain_sum F.entry_sum (by unfold argsOk; kernel_rfl) ?_
  unfold Builtin.«sum»
  simp only [List.length_cons, List.length_nil]
  rw [if_neg (by decide)]
  refine wpAny_bind (wpAny_of_eq (show Builtin.Builtins.bindParams "sum" ["start"] 0 ⟨[.int k t], []⟩ = pure [some (.int k t)] from rfl) ?_)
  refine wpAny_bind (W.self 0 s _ _ hst ?_)
  have hfl : (decide (-(2 ^ 63) ≤ k) && decide (k < 2 ^ 63)) = true := by rw [decide_eq_true hk.1, decide_eq_true hk.2]; rfl
  dsimp only
  split
  case isFalse h => exact absurd hfl h
  refine wpAny_bind (wpAny_rule (wpAny_bind (wpAny_mkInt (wpAny_bind (wpAny_pure ?_)))))
  simp only [List.forIn_cons, List.forIn_nil]
  refine wpAny_bind (wpAny_bind (wpAny_bind (wpAny_isInstance (T := "int") (b := false) (typeIs_int _ _ _) PySem.sub_int_str ?_)))
  simp only [Bool.false_eq_true, if_false]
  refine wpAny_pure (wpAny_bind (wpAny_bind (wpAny_isInstance (T := "int") (b := false) (typeIs_int _ _ _) PySem.sub_int_bytes ?_)))
  simp only [Bool.false_eq_true, if_false]
  refine wpAny_pure (wpAny_bind (wpAny_bind (wpAny_isInstance (T := "int") (b := false) (typeIs_int _ _ _) PySem.sub_int_bytearray ?_)))
  simp only [Bool.false_eq_true, if_false]
  refine wpAny_pure (wpAny_pure ?_)
  refine wpAny_bind (wpAny_newObj_type ?_)
  have hSf : s.heap.objs.size ∉ fp := fun hm => Nat.lt_irrefl _ (hfp _ hm)
  have hp1 : preSum (startV k val) 1 = k := by rw [preSum_start]; simp [preSum]
  refine wpAny_pure ⟨plainId_quiet F.plain_sum_loop _, codeAny_sum_loopS (WalksS.shift W) (startV k val) (fun i v h => ?_) (fun j hj => ?_) s.heap.objs.size hSf n 1 _ s.toks 0 (by omega) (by omega)
    ⟨Nat.one_pos, W.frame 0 s _ _ hst (by first | exact Nat.le_refl _ | exact Nat.le_succ _ | omega) fun b _ o e => Heap.get?_push_of_some _ e⟩ (by rw [hp1]; exact Heap.get?_push_size _ rfl) fun s' t' hm => ?_⟩
  · cases i with
    | zero => exact absurd h.1 (Nat.lt_irrefl _)
    | succ i => exact hval i v h.2
  · rw [preSum_start]
    cases j with
    | zero => simpa [startV, preSum] using hk
    | succ j => exact hf j (by omega)
  · rw [preSum_start]
    exact hQ s' t' (hm.drop_new (by first | exact Nat.le_refl _ | exact Nat.le_succ _ | omega))
end
section
variable {prog : Program} {w : World} {A : Around} {E : Value → Shared → Prop} {s : Shared} {h₀ : Heap} {L x dx : Addr} {m : Str → Option Value} {news : Led} {its : Array Value} {n : Nat}
theorem News.updX {h h' : Heap} {P : Addr} {o₀ o : Obj} (N : News h₀ L h news) (hx : (P, o₀) ∈ news) (hs : Heap.ExtBut P h h') (ho : h'.get? P = some o) : News h₀ L h' (updL P o news) := by
  intro p hp
  obtain ⟨q, hq, rfl⟩ := List.mem_map.mp hp
  by_cases e : q.1 = P
  · simp only [e, if_true]; exact ⟨ho, (N _ hx).2⟩
  · simp only [e, if_false]; exact ⟨hs _ _ e (N _ hq).1, (N _ hq).2⟩
theorem Fr.updX {h h' : Heap} {P : Addr} {o₀ : Obj} (F : Fr h₀ L h m) (N : News h₀ L h news) (hx : (P, o₀) ∈ news) (hs : Heap.ExtBut P h h') : Fr h₀ L h' m :=
  ⟨F.ns.at' fun o e => hs _ _ (Ne.symm (N _ hx).2.1) e, fun b o e => hs _ _ (fun e' => by rw [e', (N _ hx).2.2] at e; cases e) (F.keep b o e), F.above⟩
/-- the code of a generator expression, through the table of its def's code -/
theorem gx_code {env : Env} {c P : Addr} {ps : Array Value} {pos : Pos} {qualname : Str} {scope : Scope} {Q : Value → Shared → Prop} {o : Obj} {vs : Array Value} {file : Str} {tf tg tt : Tok} {flags text : Int} {inF : Bool}
    (hc : env.code = .ref c) (ho : s.heap.get? c = some o) (hd : o.data = .fields vs) (h11 : vs.getD 11 .none = .ref P) (h2 : vs.getD 18 .none = .str file tf) (h7 : vs.getD 7 .none = .int flags tg) (h9 : vs.getD 9 .none = .bool inF) (h10 : vs.getD 10 .none = .int text tt) (hne : c ≠ P)
    (F : Fr h₀ L s.heap m) (N : News h₀ L s.heap news) (hP : (P, tabO ps) ∈ news) (htr : TriplesOk ps.toList)
    (hQ : ∀ code h' tk ps', Fr h₀ L h' m → News h₀ L h' (updL P (tabO ps') news) → TriplesOk ps'.toList → s.heap.objs.size ≤ h'.objs.size → Heap.ExtBut P s.heap h' → Q code { s with heap := h', toks := tk }) :
    wpAny (model prog w) A (genexprCode env pos qualname scope) Q E s := by
  have hop := (N _ hP).1
  have hpd : (tabO ps).data = .fields ps := rfl
  unfold genexprCode codeAt
  rw [hc, if_neg (show ¬ ((Value.ref c == Value.none) = true) from Bool.false_ne_true)]
  refine wpAny_bind (wpAny_fieldsOf ho hd ?_)
  rw [h11]
  refine wpAny_bind (wpAny_fieldsOf hop hpd ?_)
  cases hnf : codeAmong pos ps.toList with
  | some cv => exact wpAny_pure (hQ cv s.heap s.toks ps F (News.updX N hP (Heap.ExtBut.refl _ _) hop) htr (Nat.le_refl _) (Heap.ExtBut.refl _ _))
  | none =>
    rw [h2, h7, h9, h10]
    refine wpAny_bind (wpAny_newCode fun c' P' h' tk hk hc' hP' hcode' hrec' => ?_)
    have hop' := hk _ _ hop
    refine wpAny_bind (wpAny_updateFieldsOfTheText hop' hpd ?_)
    have hnew : (Obj.mapFields (fun vs => if (codeAmong pos vs.toList).isSome = true then vs else vs ++ #[rawInt pos.line, rawInt pos.col, .ref c']) (tabO ps)).data =
        .fields (ps ++ #[rawInt pos.line, rawInt pos.col, .ref c']) := by
      rw [Obj.data_mapFields hpd, hnf]; rfl
    have hobj : Obj.mapFields (fun vs => if (codeAmong pos vs.toList).isSome = true then vs else vs ++ #[rawInt pos.line, rawInt pos.col, .ref c']) (tabO ps) = tabO (ps ++ #[rawInt pos.line, rawInt pos.col, .ref c']) := by
      unfold Obj.mapFields
      simp [hnf]
    have hget := Heap.get?_update_self (h := h') (fun o => Obj.mapFields (fun vs => if (codeAmong pos vs.toList).isSome = true then vs else
      vs ++ #[rawInt pos.line, rawInt pos.col, .ref c']) o) hop' (Obj.isFreed_of_fields hnew)
    refine wpAny_bind (wpAny_fieldsOf hget hnew ?_)
    have hl : (ps ++ #[rawInt pos.line, rawInt pos.col, Value.ref c']).toList = ps.toList ++ [rawInt pos.line, rawInt pos.col, .ref c'] := by simp
    rw [hl, codeAmong_snoc _ htr hnf]
    have hX : Heap.ExtBut P s.heap (h'.update P (fun o => Obj.mapFields (fun vs => if (codeAmong pos vs.toList).isSome = true then vs else vs ++ #[rawInt pos.line, rawInt pos.col, .ref c']) o)) := fun b o' hb e => ((Heap.SameBut.update ..).extBut b o' hb (hk b o' e))
    refine wpAny_pure (hQ _ _ _ (ps ++ #[rawInt pos.line, rawInt pos.col, .ref c']) (Fr.updX F N hP hX) (News.updX N hP hX (by rw [hget, hobj])) (by rw [hl]; exact TriplesOk_snoc _ _ _ _ htr) ?_ hX)
    obtain ⟨oc, _, _, _, _, _, _, _, _, _, hoc, _⟩ := hcode'
    exact Nat.le_of_lt (Nat.lt_of_le_of_lt hc' (by rw [Heap.size_after_update]; exact Heap.lt_size hoc))
theorem acc_walksU (hh : A.handled = none) (I x : Addr) (hne : x ≠ I) (Ts : Nat → Addr) (vals : Nat → Array Value) (hit : ∀ j, j < its.size → its[j]? = some (.ref (Ts j))) (hTI : ∀ j, j < its.size → Ts j ≠ I) :
    WalksU prog w A I (I :: x :: (List.range its.size).map Ts) [I] its.size (fun j v => j < its.size ∧ v = vals j)
      (fun j h => h.IsListIter I x j ∧ h.get? x = some (accO dx its n) ∧ ∀ k, k < its.size → h.IsTuple (Ts k) (vals k))
      (fun j T h => (j < its.size ∧ T = Ts j) ∧ h.IsListIter I x (j + 1) ∧ h.get? x = some (accO dx its n) ∧ ∀ k, k < its.size → h.IsTuple (Ts k) (vals k)) where
  sub := fun b hb => by simp at hb; simp [hb]
  frame := fun _ _ _ st hk => ⟨st.1.at fun o e => hk I (by simp) o e, hk x (by simp) _ st.2.1,
    fun k hk' => (st.2.2 k hk').at fun o e => hk (Ts k) (List.mem_cons_of_mem _ (List.mem_cons_of_mem _ (List.mem_map.mpr ⟨k, List.mem_range.mpr hk', rfl⟩))) o e⟩
  item := fun i s Q E hi st hQ => by
    refine acc_next st.1 st.2.1 (v := .ref (Ts i)) (hit i hi) fun h' hit' hs' => ?_
    have tup : ∀ k, k < its.size → h'.IsTuple (Ts k) (vals k) := fun k hk' => (st.2.2 k hk').extBut hs'.extBut (hTI k hk')
    exact hQ (Ts i) (vals i) h' s.toks ⟨hi, rfl⟩ (tup i hi) ⟨⟨hi, rfl⟩, hit', hs'.extBut _ _ hne st.2.1, tup⟩ fun b o hb e => hs'.extBut b o (fun h => hb (by simp [h])) e
  go := fun _ _ _ _ _ s Q _ hm hQ => wpAny_letOwnedTupleGo_listiter hm.2.1 (hQ s.heap hm.2 fun _ _ _ e => e)
  apart := fun j T _ hm hmem => by
    rcases List.mem_cons.mp hmem with e | e
    · exact hTI j hm.1.1 (hm.1.2 ▸ e)
    · cases e
  done := fun s Q E st hQ => acc_stop hh st.1 st.2.1 (by simp) fun h' he' => hQ h' s.toks fun b o hb e => he' b o (fun h => hb (by simp [h])) e
  self := fun _ _ _ _ st hQ => wpAny_pyIter_listiter st.1 hQ
theorem acc_gen {p : PySem.Program} {loose : List Str} {mean : ExcName → Option Value} {mg mb : Str → Option Value} {osz : Obj} {env : Env} {elt iter : PySem.Expr} {xa xb : Str} {pa pb pt : Pos} {kt : Nat} {scope : Scope} {cl : List (Str × Addr)} {pos : Pos} {xs : List (Str × Str)} {Ry : Str → Str → Value → Prop}
    {c P : Addr} {ps : Array Value} {o : Obj} {vs : Array Value} {file : Str} {tf tg tt : Tok} {flags text : Int} {inF : Bool} {Q : Value → Shared → Prop}
    (F : Fr h₀ L s.heap m) (X : (hd.heap_39 w.params).In h₀) (N : News h₀ L s.heap news) (T : Top p loose mean mg mb h₀) (hx : (x, accO dx its n) ∈ news) (hdx : (dx, osz) ∈ news) (hP : (P, tabO ps) ∈ news) (htr : TriplesOk ps.toList) (hp : PairsIn news its.toList xs)
    (hev : ∀ Q : Value → Shared → Prop, Q (.ref x) s → wpAny (model prog w) A (eval iter env) Q E s)
    (hc : env.code = .ref c) (hg : env.globals = mainGlobals) (ho : h₀.get? c = some o) (hd : o.data = .fields vs) (h11 : vs.getD 11 .none = .ref P) (h2 : vs.getD 18 .none = .str file tf) (h7 : vs.getD 7 .none = .int flags tg) (h9 : vs.getD 9 .none = .bool inF) (h10 : vs.getD 10 .none = .int text tt) (hne : c ≠ P)
    (hh : A.handled = none) (hco : scope.isCoroutine = false) (hclos : closureFor scope env = pure cl) (hcell : ∀ y ∈ scope.names, y.2 ≠ .cell) (h0 : scope.names.lookup (".0" : Str) = some NameKind.local)
    (hxa : scope.names.lookup xa = some .local) (hxb : scope.names.lookup xb = some .local) (hab : xa ≠ xb) (hkind : scope.kind = .function) (hroom : A.depth < recursionLimit) (hs : ∀ x, genFold iter env x = pure x)
    (helt : ∀ (C : Addr) (code : Value) (A' : Around) (E' Q' : Value → Shared → Prop) a b ta tb (s₂ : Shared) m₂, A'.handled = none → (a, b) ∈ xs → Fr h₀ C s₂.heap m₂ → m₂ xa = some (.str a ta) → m₂ xb = some (.str b tb) → (∀ y h' tk, Ry a b y → (∀ c o, s₂.heap.get? c = some o → h'.get? c = some o) → Q' y { s₂ with heap := h', toks := tk }) → wpAny (model prog w) A' (eval elt (genEnv scope cl C code builtinsNs env)) Q' E' s₂)
    (hQ : ∀ a K h₅ tk gs ps', gs.bare = true → L ≤ K → (∀ p ∈ news, p.1 ≤ K) → Fr h₀ L h₅ m → News h₀ L h₅ (updL P (tabO ps') news) → TriplesOk ps'.toList → Gen prog w A K a xs.length (fun i y => ∃ p, xs[i]? = some p ∧ Ry p.1 p.2 y) { s with gens := s.gens.push gs, toks := tk, heap := h₅ } →
      Q (.ref a) { s with gens := s.gens.push gs, toks := tk, heap := h₅ }) :
    wpAny (model prog w) A (eval (.GeneratorExp elt [⟨.Tuple [.Name xa pa, .Name xb pb] kt pt, iter, [], 0⟩] scope pos) env) Q E s := by
  refine wpAny_GeneratorExp_walksQT hh hco hclos hcell h0 hxa hxb hab hkind hroom (hev _ ?_) hs
  have hlx : x < s.heap.objs.size := Heap.lt_size (N _ hx).1
  have hlP : P < s.heap.objs.size := Heap.lt_size (N _ hP).1
  have hxP : x ≠ P := led_ne N hx hP (by intro e; cases e)
  have hlen : its.size = xs.length := by simpa using hp.1
  refine acc_iter F X N hx hdx ⟨(T.nolimit.keeps F.keep).push _, ?_⟩
  have F₂ : Fr h₀ L (s.heap.push { cls := .type "list_iterator", data := .fields #[.ref x, .int 0 0] }) m := F.push _
  have N₂ : News h₀ L (s.heap.push { cls := .type "list_iterator", data := .fields #[.ref x, .int 0 0] }) news := N.grown fun _ _ e => Heap.get?_push_of_some _ e
  refine gx_code hc (F₂.keep _ _ ho) hd h11 h2 h7 h9 h10 hne F₂ N₂ hP htr fun code h₃ tk₃ ps' F₃ N₃ htr' hsz hX₃ => ?_
  rw [Heap.size_push] at hsz
  obtain ⟨bm, ob, M⟩ := bmod_of_top T
  have M₃ := M.keeps F₃.keep
  refine wpAny_builtinsFor (hg ▸ M₃.ns) M₃.name M₃.ne M₃.obj M₃.cls M₃.dict M₃.data ?_
  have key : ∀ i, ∃ z : Addr × Tok × Tok, i < xs.length → its[i]? = some (.ref z.1) ∧ (z.1, pairO (xs.getD i (⟨#[]⟩, ⟨#[]⟩)).1 (xs.getD i (⟨#[]⟩, ⟨#[]⟩)).2 z.2.1 z.2.2) ∈ news := fun i => by
    by_cases hi : i < xs.length
    · obtain ⟨q, t, u, e1, e2⟩ := hp.get hi
      exact ⟨(q, t, u), fun _ => ⟨by simpa using e1, e2⟩⟩
    · exact ⟨(0, 0, 0), fun h => absurd h hi⟩
  let z : Nat → Addr × Tok × Tok := fun i => Classical.choose (key i)
  have hz : ∀ i, i < xs.length → its[i]? = some (.ref (z i).1) ∧ ((z i).1, pairO (xs.getD i (⟨#[]⟩, ⟨#[]⟩)).1 (xs.getD i (⟨#[]⟩, ⟨#[]⟩)).2 (z i).2.1 (z i).2.2) ∈ news := fun i => Classical.choose_spec (key i)
  have hTlt : ∀ i, i < xs.length → (z i).1 < s.heap.objs.size := fun i hi => Heap.lt_size (N _ (hz i hi).2).1
  have hIP : s.heap.objs.size ≠ P := Ne.symm (Nat.ne_of_lt hlP)
  have hl₃ : h₃.NoLimit := T.nolimit.keeps F₃.keep
  have hcs : cStatics < s.heap.objs.size := by obtain ⟨_, hns, _⟩ := T.nolimit.keeps F.keep; exact hns.lt
  have hK : L ≤ s.heap.objs.size - 1 := Nat.le_sub_one_of_lt F.ns.lt
  refine ⟨s.heap.objs.size, _, [s.heap.objs.size], its.size, _, _, _, (fun _ => true), (fun i y => ∃ p, xs[i]? = some p ∧ Ry p.1 p.2 y), rfl,
    (fun A' hA => acc_walksU (dx := dx) (n := n) hA s.heap.objs.size x (Nat.ne_of_lt hlx) (fun i => (z i).1) (fun i => #[.str (xs.getD i (⟨#[]⟩, ⟨#[]⟩)).1 (z i).2.1, .str (xs.getD i (⟨#[]⟩, ⟨#[]⟩)).2 (z i).2.2]) (fun j hj => (hz j (hlen ▸ hj)).1) (fun j hj => Nat.ne_of_lt (hTlt j (hlen ▸ hj)))),
    (fun i vals e => ⟨_, _, e.2⟩), ⟨?_, ?_, ?_⟩, ?_, hl₃, (fun h => Nat.lt_irrefl _ ((List.mem_singleton.mp h) ▸ hcs)), ?_, ?_⟩
  · exact ⟨_, hX₃ _ _ hIP (Heap.get?_push_size _ rfl), rfl, rfl⟩
  · exact (N₃ _ (mem_updL_ne hx hxP)).1
  · intro k hk
    have hm := (hz k (hlen ▸ hk)).2
    exact ⟨_, (N₃ _ (mem_updL_ne hm (led_ne N hm hP (by intro e; cases e)))).1, rfl, _, rfl⟩
  · intro b hb
    have hlt : ∀ b, b ≤ s.heap.objs.size → b < h₃.objs.size := fun b hb => by omega
    simp only [List.mem_cons, List.mem_map, List.mem_range] at hb
    rcases hb with rfl | rfl | ⟨k, hk, rfl⟩
    · exact hlt _ (Nat.le_refl _)
    · exact hlt _ (Nat.le_of_lt hlx)
    · exact hlt _ (Nat.le_of_lt (hTlt k (hlen ▸ hk)))
  · intro href hhref
    have hfr : ∀ (s₂ : Shared) m₂, s₂.heap.Ns h₃.objs.size m₂ → (∀ b ∈ List.range h₃.objs.size, b ∉ [s.heap.objs.size] → ∀ o, href.get? b = some o → s₂.heap.get? b = some o) → Fr h₀ h₃.objs.size s₂.heap m₂ := fun s₂ m₂ hn hk =>
      ⟨hn, fun b o e => hk b (List.mem_range.mpr (Heap.lt_size (F₃.keep _ _ e))) (fun h => by rw [List.mem_singleton.mp h, Heap.get?_none_of_le (Nat.le_trans F.above (Nat.le_of_lt F.ns.lt))] at e; cases e) _ (hhref _ _ (F₃.keep _ _ e)), Nat.le_trans F₃.above (Nat.le_of_lt F₃.ns.lt)⟩
    refine ⟨fun A' E' i va vb s₂ m₂ hA hP2 hn _ _ hk => wpAny_pure ⟨rfl, s₂.heap, s₂.toks, rfl, fun _ _ e => e⟩, fun A' E' i va vb s₂ m₂ hA hP2 _ hn ha hb hk => ?_⟩
    obtain ⟨hi, hP2⟩ := hP2
    injection hP2 with hP2
    simp only [List.cons.injEq, and_true] at hP2
    obtain ⟨rfl, rfl⟩ := hP2
    have hi' : i < xs.length := hlen ▸ hi
    have hxi : xs[i]? = some (xs.getD i (⟨#[]⟩, ⟨#[]⟩)) := by rw [List.getD_eq_getElem?_getD, List.getElem?_eq_getElem hi']; rfl
    exact helt _ code A' E' _ _ _ _ _ s₂ m₂ hA (List.mem_of_getElem? hxi) (hfr s₂ m₂ hn hk) ha hb fun y h' tk h hk' => ⟨⟨_, hxi, h⟩, h', tk, rfl, hk'⟩
  · intro a h₅ tk gs hgb hag hsz₅ hk₅ W hat
    have hlp : (passing (fun _ => true) its.size 0) = List.range xs.length := by unfold passing; simp [hlen]
    rw [hlp, List.length_range] at W
    have hPe : (fun (j : Nat) (y : Value) => ∃ i, (List.range xs.length)[j]? = some i ∧ ∃ p, xs[i]? = some p ∧ Ry p.1 p.2 y) = fun (i : Nat) (y : Value) => ∃ p, xs[i]? = some p ∧ Ry p.1 p.2 y := by
      funext j y
      refine propext ⟨fun ⟨i, h1, p, h2, h3⟩ => ?_, fun ⟨p, h2, h3⟩ => ⟨j, ?_, p, h2, h3⟩⟩
      · rw [List.getElem?_range (by
          rcases Nat.lt_or_ge j xs.length with h | h
          · exact h
          · rw [List.getElem?_eq_none (by simpa using h)] at h1; cases h1)] at h1
        cases h1
        exact ⟨p, h2, h3⟩
      · exact List.getElem?_range (List.getElem?_eq_some_iff.mp h2).1
    rw [hPe] at W
    refine hQ a (s.heap.objs.size - 1) h₅ tk gs ps' hgb hK (fun p hp => Nat.le_sub_one_of_lt (Heap.lt_size (N p hp).1)) (F₃.keeps hk₅) (N₃.keeps hk₅) htr' ⟨_, _, _, _, W, hat, (fun i s' st => st.1.typeIs), List.mem_cons_self, ?_, ?_⟩
    · intro b hb
      show b < h₅.objs.size
      rw [hsz₅]
      rcases List.mem_cons.mp hb with rfl | hb
      · exact Nat.lt_succ_self _
      · rcases List.mem_cons.mp hb with rfl | hb
        · exact Nat.lt_succ_of_lt hag
        · exact Nat.lt_succ_of_lt (Nat.lt_trans (List.mem_range.mp hb) hag)
    · intro b hb
      have hpos : 0 < s.heap.objs.size := Nat.lt_of_le_of_lt (Nat.zero_le _) hlx
      rcases List.mem_cons.mp hb with rfl | hb
      · exact Nat.lt_of_lt_of_le (Nat.sub_lt hpos Nat.one_pos) (Nat.le_trans (Nat.le_succ _) hsz)
      · rw [List.mem_singleton.mp hb]
        exact Nat.sub_lt hpos Nat.one_pos
end
/-! __len__, __str__, is_onlyws -/
section
variable {prog : Program} {w : World} {A : Around} {E : Value → Shared → Prop} {s : Shared} {h₀ h h' : Heap} {L K a : Addr} {m : Str → Option Value} {news : Led} {n : Nat} {F : Nat → Value → Prop}
theorem Fr.upTo (Fh : Fr h₀ L h m) (hLK : L ≤ K) (hk : ∀ b o, b ≤ K → h.get? b = some o → h'.get? b = some o) : Fr h₀ L h' m :=
  ⟨Fh.ns.at' fun o e => hk _ _ hLK e, fun b o e => hk _ _ (Nat.le_trans (Nat.le_of_lt (Nat.lt_of_lt_of_le (Heap.lt_size e) Fh.above)) hLK) (Fh.keep b o e), Fh.above⟩
theorem News.upTo (N : News h₀ L h news) (hn : ∀ p ∈ news, p.1 ≤ K) (hk : ∀ b o, b ≤ K → h.get? b = some o → h'.get? b = some o) : News h₀ L h' news :=
  fun p hp => ⟨hk _ _ (hn p hp) (N p hp).1, (N p hp).2⟩
theorem Gen.later {tk : Nat} (X : Gen prog w A K a n F s) (htk : s.toks ≤ tk) : Gen prog w A K a n F { s with toks := tk } := by
  obtain ⟨fp, wr, g, St, W, hst, hT, ha, hfp, hwr⟩ := X
  exact ⟨fp, wr, g, St, W, W.frame 0 s s.heap tk hst htk fun _ _ _ e => e, hT, ha, hfp, hwr⟩
theorem moved_upTo {wr : List Addr} {g : Nat} {s' : Shared} (hm : Moved wr (GenOnlyQ g) s s') (hwr : ∀ b ∈ wr, K < b) : ∃ h' tk gs, s' = { s with heap := h', toks := tk, gens := gs } ∧ Bare s.gens gs ∧ ∀ b o, b ≤ K → s.heap.get? b = some o → h'.get? b = some o := by
  have hb : AllBare s.gens → AllBare s'.gens := fun G => G.movedS hm
  obtain ⟨h5, g5, d5, t5, o5⟩ := s'
  obtain ⟨h1, _, h3, h4, _⟩ := hm
  dsimp only at h1 h3 h4 hb
  subst h3 h4
  exact ⟨h5, t5, g5, rfl, hb, fun b o hb e => h1 b o (fun hm => Nat.lt_irrefl _ (Nat.lt_of_lt_of_le (hwr b hm) hb)) e⟩
theorem sum_gen {val : Nat → Int} {k : Int} {t : Tok} {Q : Value → Shared → Prop} (X : Gen prog w A K a n F s) (hval : ∀ i v, F i v → ∃ t, v = .int (val i) t) (hk : InLong k) (hf : ∀ j, j < n → InLong (val j) ∧ InLong (k + preSum val (j + 1)))
    (hQ : ∀ h' tk gs t', Bare s.gens gs → (∀ b o, b ≤ K → s.heap.get? b = some o → h'.get? b = some o) → Q (.int (k + preSum val n) t') { s with heap := h', toks := tk, gens := gs }) :
    wpAny (model prog w) A (call (.builtin "sum") [.ref a, .int k t]) Q E s := by
  obtain ⟨fp, wr, g, St, W, hst, hT, ha, hfp, hwr⟩ := X
  refine sum_start W.in4_1 hst hfp hval hk hf fun s' t' hm => ?_
  obtain ⟨h', tk, gs, rfl, h1, h2⟩ := moved_upTo hm hwr
  exact hQ h' tk gs t' h1 h2
theorem join_genX {sep : Str} {t : Tok} {tx : Nat → Str} {Q : Value → Shared → Prop} (X : Gen prog w A K a n F s) (htx : ∀ j v, F j v → ∃ u, v = .str (tx j) u) (hok : JoinOk sep ((List.range n).map tx) = true) (hsz : n ≤ sizeLine)
    (hQ : ∀ h' tk gs t', Bare s.gens gs → (∀ b o, b ≤ K → s.heap.get? b = some o → h'.get? b = some o) → Q (.str (Txt.join sep ((List.range n).map tx)) t') { s with heap := h', toks := tk, gens := gs }) :
    wpAny (model prog w) A (call (.builtin "str.join") [.str sep t, .ref a]) Q E s := by
  obtain ⟨fp, wr, g, St, W, hst, hT, ha, hfp, hwr⟩ := X
  have W := W.in4_2
  refine SC.joinGen W hT hst hfp ha (fun j v hv => let ⟨u, e⟩ := htx j v hv; ⟨_, u, e⟩) (fun s' lt hm hacc => ?_) hsz
  have hl : lt.map (·.1) = (List.range n).map tx := by
    apply List.ext_getElem?
    intro j
    have hsz : lt.length = n := by simpa [strValues] using hacc.1
    by_cases hj : j < n
    · have hj' : j < lt.length := hsz ▸ hj
      obtain ⟨u, hv⟩ := htx j _ (hacc.2 j (.str lt[j].1 lt[j].2) (by simp [strValues, List.getElem?_eq_getElem hj']))
      injection hv with h1 _
      simp [List.getElem?_eq_getElem hj', hj, h1]
    · rw [List.getElem?_eq_none (by simpa [hsz] using Nat.le_of_not_lt hj), List.getElem?_eq_none (by simpa using Nat.le_of_not_lt hj)]
  rw [hl]
  refine ⟨hok, fun t' k => ?_⟩
  obtain ⟨h', tk, gs, rfl, h1, h2⟩ := moved_upTo hm hwr
  exact hQ h' k gs t' h1 h2
end
section
variable {M : Model} {A : Around} {E : Value → Shared → Prop} {s : Shared} {h₀ : Heap} {C : Addr} {m mg mb : Str → Option Value} {K : Frag} {scope : Scope} {cl : List (Str × Addr)} {code : Value} {env : Env} {x : Str} {pos : Pos} {v : Value} {p : PySem.Program} {loose : List Str} {mean : ExcName → Option Value} {Q : Value → Shared → Prop}
theorem gx_loc (F : Fr h₀ C s.heap m) (hv : m x = some v) (hk : scope.kind = .function) (hl : scope.names.lookup x = some .local) (hd : (x == ("__debug__" : Str)) = false) (h : Q v s) : wpAny M A (eval (.Name x pos) (genEnv scope cl C code builtinsNs env)) Q E s :=
  wpAny_Name (wpAny_loadName_local (env := genEnv scope cl C code builtinsNs env) hk hl F.ns hv h) hd
theorem gx_glob (F : Fr h₀ C s.heap m) (X : K.In h₀) (T : Top p loose mean mg mb h₀) (e : nsIn K mainGlobals x = some (some v)) (hg : env.globals = mainGlobals) (hk : scope.kind = .function) (hl : scope.names.lookup x = some .globalImplicit) (hd : (x == ("__debug__" : Str)) = false) (h : Q v s) : wpAny M A (eval (.Name x pos) (genEnv scope cl C code builtinsNs env)) Q E s :=
  Calls.Name_function_global (env := genEnv scope cl C code builtinsNs env) hk hl (Calls.loadGlobal_global (env := genEnv scope cl C code builtinsNs env) (mg := mg) (by show s.heap.Ns env.globals mg; rw [hg]; exact T.g.keeps F.keep) (mg_of X T.g e) h) hd
theorem gx_blt (F : Fr h₀ C s.heap m) (X : K.In h₀) (T : Top p loose mean mg mb h₀) (e : nsIn K mainGlobals x = some none) (hb : bootBuiltins x = some v) (hn : x ≠ "__name__") (hg : env.globals = mainGlobals) (hk : scope.kind = .function) (hl : scope.names.lookup x = some .globalImplicit) (hd : (x == ("__debug__" : Str)) = false) (h : Q v s) : wpAny M A (eval (.Name x pos) (genEnv scope cl C code builtinsNs env)) Q E s :=
  Calls.Name_function_global (env := genEnv scope cl C code builtinsNs env) hk hl (Calls.loadGlobal_builtin (env := genEnv scope cl C code builtinsNs env) (mg := mg) (mb := mb) (by show s.heap.Ns env.globals mg; rw [hg]; exact T.g.keeps F.keep) (mg_none_of X T.g e) (T.b.keeps F.keep) ((T.builtins x hn).trans hb) h) hd
end
section
variable {prog : Program} {w : World} {A : Around} {E : Value → Shared → Prop} {s : Shared} {h₀ : Heap} {L x dx : Addr} {m : Str → Option Value} {news : Led} {its : Array Value} {n : Nat} {hh : Int} {tk : Tok} {k : Int} {t : Tok}
theorem acc_size {expr : Bool} {Q : Value → Shared → Prop} (F : Fr h₀ L s.heap m) (X : (hd.heap_39 w.params).In h₀) (N : News h₀ L s.heap news) (hx : (x, accO dx its n) ∈ news) (hdx : (dx, sizeO hh tk k t) ∈ news) (h : Q (.int k t) { s with toks := s.toks + 1 }) :
    wpAny (model prog w) A (getAttr (.ref x) (PySem.Str.ofString "_initial_size") expr) Q E s :=
  acc_getattr (X.keeps F.keep) (acc_inst N hx hdx) (by k_is) (by k_is) (by k_is) (by
    have hf : findIn (hd.heap_39 w.params) (.ref 114) (PySem.Str.ofString "_initial_size") = some none := by k_is
    unfold findObj
    rw [hf]
    rfl) rfl h
end
theorem rules_21_1 : True := by
  (k_with "getAttr ref" => ((k_here; k_dflt (refine' acc_size ?z0F ?z0X ?z0N ?z0x ?z0d ?_; (case z0F => k_asm); (case z0X => k_asm); (case z0N => k_asm); (case z0x => k_mem); (case z0d => k_mem); k_whole))))
  (k_with "eval Name" => ((k_here; (with_reducible show wpAny _ _ (eval (PySem.Expr.Name _ _) (genEnv _ _ _ _ _ _)) _ _ _); k_dflt (first
  | (refine' gx_loc ?z0F ?z0v ?z0hk ?z0hl ?z0hd ?_; (case z0F => assumption); (case z0v => assumption); (case z0hk => exact rfl); (case z0hl => exact rfl); (case z0hd => decide); k_whole)
  | (refine' gx_glob ?z0F ?z0X ?z0T ?z0e ?z0hg ?z0hk ?z0hl ?z0hd ?_; (case z0F => assumption); (case z0X => assumption); (case z0T => assumption); (case z0e => k_is); (case z0hg => exact rfl); (case z0hk => exact rfl); (case z0hl => exact rfl); (case z0hd => decide); k_whole)
  | (refine' gx_blt ?z0F ?z0X ?z0T ?z0e ?z0hb ?z0hn ?z0hg ?z0hk ?z0hl ?z0hd ?_; (case z0F => assumption); (case z0X => assumption); (case z0T => assumption); (case z0e => k_is); (case z0hb => boot_by_name); (case z0hn => decide); (case z0hg => exact rfl); (case z0hk => exact rfl); (case z0hl => exact rfl); (case z0hd => decide); k_whole)))))
  trivial
def lenF (k : Int) (xs : List (Str × Str)) : Int := k + ((xs.map fun p => ((p.1.length : Int) + (p.2.length : Int))).sum)
theorem updL_le {news : Led} {P K : Addr} {o : Obj} (h : ∀ p ∈ news, p.1 ≤ K) : ∀ p ∈ updL P o news, p.1 ≤ K := fun p hp => by
  obtain ⟨q, hq, rfl⟩ := List.mem_map.mp hp
  by_cases e : q.1 = P
  · simp only [e, if_true]; exact e ▸ h q hq
  · simp only [e, if_false]; exact h q hq
abbrev pairLen (xs : List (Str × Str)) (j : Nat) : Int := (((xs.getD j (⟨#[]⟩, ⟨#[]⟩)).1.length : Int) + ((xs.getD j (⟨#[]⟩, ⟨#[]⟩)).2.length : Int))
theorem preSum_len' {xs : List (Str × Str)} (h : ∀ p ∈ xs, p.1.length ≤ 1000 ∧ p.2.length ≤ 1000) : ∀ j, j ≤ xs.length → 0 ≤ preSum (pairLen xs) j ∧ preSum (pairLen xs) j ≤ 2000 * j
  | 0, _ => by simp [preSum]
  | j + 1, hj => by
    have ih := preSum_len' h j (by omega)
    have hx : xs[j]? = some (xs.getD j (⟨#[]⟩, ⟨#[]⟩)) := by rw [List.getD_eq_getElem?_getD, List.getElem?_eq_getElem (by omega)]; rfl
    have hm := h _ (List.mem_of_getElem? hx)
    rw [preSum]
    unfold pairLen at ih ⊢
    omega
theorem preSum_len {xs : List (Str × Str)} (h : ∀ p ∈ xs, p.1.length ≤ 1000 ∧ p.2.length ≤ 1000) (j : Nat) (hj : j < xs.length) : 0 ≤ pairLen xs j ∧ pairLen xs j ≤ 2000 ∧ 0 ≤ preSum (pairLen xs) (j + 1) ∧ preSum (pairLen xs) (j + 1) ≤ 2000 * ((j + 1 : Nat) : Int) := by
  have h1 := preSum_len' h (j + 1) hj
  have hx : xs[j]? = some (xs.getD j (⟨#[]⟩, ⟨#[]⟩)) := by rw [List.getD_eq_getElem?_getD, List.getElem?_eq_getElem hj]; rfl
  have hm := h _ (List.mem_of_getElem? hx)
  refine ⟨?_, ?_, h1.1, by exact_mod_cast h1.2⟩ <;> unfold pairLen <;> omega
theorem preSum_take (xs : List (Str × Str)) : ∀ j, j ≤ xs.length → preSum (pairLen xs) j = (((xs.take j).map fun p => ((p.1.length : Int) + (p.2.length : Int))).sum)
  | 0, _ => by simp [preSum]
  | j + 1, hj => by
    rw [preSum, preSum_take xs j (by omega), List.take_add_one]
    have hx : xs[j]? = some (xs.getD j (⟨#[]⟩, ⟨#[]⟩)) := by rw [List.getD_eq_getElem?_getD, List.getElem?_eq_getElem (by omega)]; rfl
    rw [hx]
    simp [pairLen]
theorem preSum_lenF (k : Int) (xs : List (Str × Str)) : k + preSum (pairLen xs) xs.length = lenF k xs := by
  rw [preSum_take xs _ (Nat.le_refl _), List.take_length]
  rfl
set_option maxHeartbeats 0 in
theorem len_spec {w : World} {news : Led} {x dx : Addr} {its : Array Value} {n : Nat} {hh : Int} {tk : Tok} {k : Int} {t : Tok} {ps : Array Value} {xs : List (Str × Str)}
   (hx : (x, accO dx its n) ∈ news) (hdx : (dx, sizeO hh tk k t) ∈ news) (htab : (76, tabO ps) ∈ news) (htr : TriplesOk ps.toList) (hp : PairsIn news its.toList xs) (hsz : ∀ p ∈ xs, p.1.length ≤ 1000 ∧ p.2.length ≤ 1000) (hln : xs.length ≤ 1000) (hk0 : 0 ≤ k) (hk1 : k ≤ 1000) :
   Spec 8 w 81 [.ref x] news (fun v news' => ∃ t', v = .int (lenF k xs) t' ∧ ∃ ps', TriplesOk ps'.toList ∧ news' = updL 76 (tabO ps') news) := by
  intro p loose mean mg mb dp un gd cn cs' L a ccd cl outer A₀ base h₀ m s Q E B F X N T X24 hk hdp hun ret
  refine wpAny_call ?_
  k_dflt (refine' code_def ?k1 ?k2 ?k3 ?k4 ?k5 ?kA ?kF ?kK ?k6 ?k7 ?k8 ?k9 ?kB ?_ ?c2 ?c3 ?c4 ?c5; (case kA => exact rfl); (case kF => exact rfl); (case kK => first | assumption | exact rfl); (case k1 => k_asm); (case k2 => k_asm); (case k3 => k_asm); (case k4 => k_asm); (case k5 => k_asm); (case k6 => k_is); (case k7 => k_is); (case k8 => k_room); (case k9 => first | exact BindsTo.of_eq rfl | exact binds_K (by k_in) rfl (by k_is) rfl rfl rfl); (case c5 => decide); (case kB => exact locs rfl); (case c2 => exact rfl); (case c3 => exact rfl); (case c4 => exact rfl); k_whole)
  intro g1 L1 h1 FG F1 N1 B1 X1 T1
  (try dsimp only)
  (try k_lift B1)
  obtain ⟨m1, F2, hm⟩ : ∃ m1, Fr g1 L1 h1 m1 ∧ (m1 (Str.ofString "self") = some (.ref x) ∧ True) := ⟨_, F1, rfl, trivial⟩
  obtain ⟨hm1, _⟩ := hm
  clear F1
  (try k_fold)
  k_steps
  refine acc_gen (Ry := fun a b y => ∃ t, y = .int ((a.length : Int) + (b.length : Int)) t) F2 X1 N1 T1 hx hdx htab htr hp (fun Q h => ?_) rfl rfl (X1 _ _ (by k_is)) rfl rfl rfl rfl rfl rfl (by decide) rfl rfl rfl (by decide) rfl rfl rfl (by decide) rfl (by k_room) (fun _ => rfl) ?_ ?_
  · k_steps
    exact h
  · intro C code A' E' Q' a b ta tb s₂ m₂ hA hab F3 ha hb hQ'
    have N3 : News g1 C s₂.heap [] := fun p hp => nomatch hp
    obtain ⟨la, lb⟩ := hsz _ hab
    have la' : a.length ≤ 1000 := la
    have lb' : b.length ≤ 1000 := lb
    clear la lb
    refine wpAny_BinOp ?_
    refine wpAny_Call_Name_kw ?_
    k_steps
    exact hQ' _ _ _ ⟨_, rfl⟩ fun _ _ e => e
  · intro a K h5 tk5 gs ps' hgb hLK hK F3 N3 htr' G
    have hx76 : x ≠ 76 := led_ne N1 hx htab (by intro e; cases e)
    have hd76 : dx ≠ 76 := led_ne N1 hdx htab (by intro e; cases e)
    k_steps
    refine sum_gen (val := pairLen xs) (Gen.later G (by first | exact Nat.le_refl _ | exact Nat.le_succ _ | exact Nat.le_add_right ..)) ?_ ?_ ?_ ?_
    · rintro i v ⟨p, hp, t, rfl⟩
      exact ⟨t, by unfold pairLen; rw [List.getD_eq_getElem?_getD, hp]; rfl⟩
    · exact ⟨by omega, by omega⟩
    · intro j hj
      have hb := preSum_len hsz j hj
      exact ⟨⟨by omega, by omega⟩, by omega, by omega⟩
    · intro h9 tk9 gs9 t' hG9 hk9
      have F9 := Fr.upTo F3 hLK hk9
      have N9 := News.upTo N3 (updL_le hK) hk9
      have hG8 : Bare s.gens (s.gens.push gs) := fun x => x.push hgb
      rw [preSum_lenF]
      k_steps
      exact ret _ _ _ _ _ (by k_asm) (by k_asm) ⟨_, rfl, ps', htr', rfl⟩ (hG8.trans hG9)
/-! __str__ -/
theorem rules_22_1 : True := by
  (k_with "eval Tuple" => ((k_here; (with_reducible show wpAny _ _ (eval (PySem.Expr.Tuple _ _ _) (genEnv _ _ _ _ _ _)) _ _ _); k_dflt (refine' wpAny_Tuple ?_; k_whole))))
  trivial
abbrev eS : Str := PySem.Str.ofString ""
def strF (xs : List (Str × Str)) : Str := Txt.join eS (xs.map fun p => Txt.join eS [p.1, p.2])
abbrev pairStr (xs : List (Str × Str)) (j : Nat) : Str := Txt.join eS [(xs.getD j (⟨#[]⟩, ⟨#[]⟩)).1, (xs.getD j (⟨#[]⟩, ⟨#[]⟩)).2]
theorem join2_len (a b : Str) : (Txt.join eS [a, b]).length ≤ a.length + b.length := by
  unfold Txt.join
  rw [StrLaws.glued_eq_join]
  refine Nat.le_trans (StrLaws.join_length_le _ _) ?_
  simp only [List.map_cons, List.map_nil, List.sum_cons, List.sum_nil, List.length_cons, List.length_nil]
  show a.length + (b.length + 0) + (0 + 1 + 1) * 0 ≤ _
  omega
theorem sum_le_mul : ∀ (l : List Nat) (c : Nat), (∀ x ∈ l, x ≤ c) → l.sum ≤ l.length * c
  | [], _, _ => by simp
  | x :: l, c, h => by
    have h1 := sum_le_mul l c fun y hy => h y (List.mem_cons_of_mem _ hy)
    have h2 := h x List.mem_cons_self
    simp only [List.sum_cons, List.length_cons, Nat.succ_mul]
    omega
theorem strOk {xs : List (Str × Str)} (hsz : ∀ p ∈ xs, p.1.length ≤ 1000 ∧ p.2.length ≤ 1000) (hln : xs.length ≤ 1000) : JoinOk eS (xs.map fun p => Txt.join eS [p.1, p.2]) = true := by
  refine joinOk_of ?_
  have h := sum_le_mul ((xs.map fun p => Txt.join eS [p.1, p.2]).map (·.length)) 2000 (by
    intro n hn
    obtain ⟨y, hy, rfl⟩ := List.mem_map.mp hn
    obtain ⟨p, hp, rfl⟩ := List.mem_map.mp hy
    have := join2_len p.1 p.2
    have := hsz p hp
    omega)
  rw [List.length_map, List.length_map] at h
  have : xs.length * 2000 ≤ 1000 * 2000 := Nat.mul_le_mul_right _ hln
  show _ + _ * 0 ≤ _
  omega
set_option maxHeartbeats 400000 in
theorem str_spec {w : World} {news : Led} {x dx : Addr} {its : Array Value} {n : Nat} {osz : Obj} {ps : Array Value} {xs : List (Str × Str)}
   (hx : (x, accO dx its n) ∈ news) (hdx : (dx, osz) ∈ news) (htab : (83, tabO ps) ∈ news) (htr : TriplesOk ps.toList) (hp : PairsIn news its.toList xs) (hsz : ∀ p ∈ xs, p.1.length ≤ 1000 ∧ p.2.length ≤ 1000) (hln : xs.length ≤ 1000) :
   Spec 8 w 88 [.ref x] news (fun v news' => ∃ t', v = .str (strF xs) t' ∧ ∃ ps', TriplesOk ps'.toList ∧ news' = updL 83 (tabO ps') news) := by
  intro p loose mean mg mb dp un gd cn cs' L a ccd cl outer A₀ base h₀ m s Q E B F X N T X24 hk hdp hun ret
  refine wpAny_call ?_
  k_dflt (refine' code_def ?k1 ?k2 ?k3 ?k4 ?k5 ?kA ?kF ?kK ?k6 ?k7 ?k8 ?k9 ?kB ?_ ?c2 ?c3 ?c4 ?c5; (case kA => exact rfl); (case kF => exact rfl); (case kK => first | assumption | exact rfl); (case k1 => k_asm); (case k2 => k_asm); (case k3 => k_asm); (case k4 => k_asm); (case k5 => k_asm); (case k6 => k_is); (case k7 => k_is); (case k8 => k_room); (case k9 => first | exact BindsTo.of_eq rfl | exact binds_K (by k_in) rfl (by k_is) rfl rfl rfl); (case c5 => decide); (case kB => exact locs rfl); (case c2 => exact rfl); (case c3 => exact rfl); (case c4 => exact rfl); k_whole)
  intro g1 L1 h1 FG F1 N1 B1 X1 T1
  (try dsimp only)
  (try k_lift B1)
  obtain ⟨m1, F2, hm⟩ : ∃ m1, Fr g1 L1 h1 m1 ∧ (m1 (Str.ofString "self") = some (.ref x) ∧ True) := ⟨_, F1, rfl, trivial⟩
  obtain ⟨hm1, _⟩ := hm
  clear F1
  (try k_fold)
  k_steps
  refine acc_gen (Ry := fun a b y => ∃ t, y = .str (Txt.join eS [a, b]) t) F2 X1 N1 T1 hx hdx htab htr hp (fun Q h => ?_) rfl rfl (X1 _ _ (by k_is)) rfl rfl rfl rfl rfl rfl (by decide) rfl rfl rfl (by decide) rfl rfl rfl (by decide) rfl (by k_room) (fun _ => rfl) ?_ ?_
  · k_steps
    exact h
  · intro C code A' E' Q' a b ta tb s₂ m₂ hA hab F3 ha hb hQ'
    have N3 : News g1 C s₂.heap [] := fun p hp => nomatch hp
    obtain ⟨la, lb⟩ := hsz _ hab
    have la' : a.length ≤ 1000 := la
    have lb' : b.length ≤ 1000 := lb
    clear la lb
    k_steps
    refine join_tuple (ys := [a, b]) ⟨_, Heap.get?_push_size _ rfl, rfl, _, rfl⟩ (.cons a ta (.cons b tb .nil)) ?_ fun t' k => ?_
    · simp only [List.map_cons, List.map_nil, List.sum_cons, List.sum_nil, List.length_cons, List.length_nil]
      show a.length + (b.length + 0) + (0 + 1 + 1) * 0 ≤ _
      omega
    · exact hQ' _ _ _ ⟨_, rfl⟩ fun c o e => Heap.get?_push_of_some _ e
  · intro a K h5 tk5 gs ps' hgb hLK hK F3 N3 htr' G
    have hx76 : x ≠ 83 := led_ne N1 hx htab (by intro e; cases e)
    k_steps
    have hmap : (List.range xs.length).map (pairStr xs) = xs.map fun p => Txt.join eS [p.1, p.2] := by
      apply List.ext_getElem?
      intro j
      by_cases hj : j < xs.length
      · simp [hj, pairStr, List.getD_eq_getElem?_getD]
      · simp [hj]
    refine join_genX (tx := pairStr xs) G ?_ ?_ (le_sizeLine (Nat.le_trans hln (by omega))) ?_
    · rintro i v ⟨p, hp, t, rfl⟩
      exact ⟨t, by unfold pairStr; rw [List.getD_eq_getElem?_getD, hp]; rfl⟩
    · rw [hmap]
      exact strOk hsz hln
    · intro h9 tk9 gs9 t' hG9 hk9
      have F9 := Fr.upTo F3 hLK hk9
      have N9 := News.upTo N3 (updL_le hK) hk9
      have hG8 : Bare s.gens (s.gens.push gs) := fun x => x.push hgb
      rw [hmap]
      k_steps
      exact ret _ _ _ _ _ (by k_asm) (by k_asm) ⟨_, rfl, ps', htr', rfl⟩ (hG8.trans hG9)
/-! len, str and truth of an _Accumulator; is_onlyws -/
section
variable {prog : Program} {w : World} {A : Around} {E : Value → Shared → Prop} {s : Shared} {h₀ : Heap} {L x dx : Addr} {m : Str → Option Value} {news : Led} {its : Array Value} {n : Nat} {osz : Obj}
theorem acc_len {Q : Value → Shared → Prop} (F : Fr h₀ L s.heap m) (X : (hd.heap_39 w.params).In h₀) (N : News h₀ L s.heap news) (hx : (x, accO dx its n) ∈ news) (hdx : (dx, osz) ∈ news) (h : wpAny (model prog w) A.in1 (call (.ref 81) [.ref x]) (PySem.W.LenBack Q) E s) :
    wpAny (model prog w) A (call (.builtin "len") [.ref x]) Q E s :=
  len_K F X (acc_inst N hx hdx) (by k_is) (by k_is) h
theorem acc_str {Q : Value → Shared → Prop} (hu : A.in1.in1.units < cLine) (F : Fr h₀ L s.heap m) (X : (hd.heap_39 w.params).In h₀) (N : News h₀ L s.heap news) (hx : (x, accO dx its n) ∈ news) (hdx : (dx, osz) ∈ news) (h : wpAny (model prog w) A.in1.in1 (call (.ref 88) [.ref x]) (PySem.W.StrBack Q) E s) :
    wpAny (model prog w) A (call (.type "str") [.ref x]) Q E s :=
  kso_call hu (X.keeps F.keep) (acc_inst N hx hdx) (by k_is) (by k_is) h
theorem acc_truthy {Q : Bool → Shared → Prop} (F : Fr h₀ L s.heap m) (X : (hd.heap_39 w.params).In h₀) (N : News h₀ L s.heap news) (hx : (x, accO dx its n) ∈ news) (hdx : (dx, osz) ∈ news)
    (h : wpAny (model prog w) A.in1 (call (.ref 81) [.ref x]) (PySem.W.LenBack fun r s' => ∃ k t, r = .int k t ∧ Q (k != 0) s') E s) : wpAny (model prog w) A (truthy (.ref x)) Q E s := by
  have X' := X.keeps F.keep
  have I := acc_inst N hx hdx
  have hs : findIn (hd.heap_39 w.params) (.ref 114) (Str.ofString "__bool__") = some none := by k_is
  have hl : findIn (hd.heap_39 w.params) (.ref 114) (Str.ofString "__len__") = some (some (.ref 81)) := by k_is
  have hf : isFn (hd.heap_39 w.params) (.ref 81) = true := by k_is
  unfold truthy
  refine wpAny_bind (m := callSpecial? (.ref x) (Str.ofString "__bool__")) (wpAny_bind (wpAny_bind (I.type.here ((looks_findIn X' hs).here (wpAny_pure ?_)))))
  refine wpAny_bind (wpAny_bind (I.type.here ((looks_findIn X' hl).here ?_)))
  refine wpAny_bind (wpAny_runValue (codeAny_builtin entry_len ?_))
  rw [Around.under_plainId plain_len _]
  unfold Builtin.«len»
  refine wpAny_bind (m := oneArg "len" _) (wpAny_pure ?_)
  refine wpAny_bind (m := callSpecial? (.ref x) (Str.ofString "__len__")) (special_fn X' I hl (beq_iff_eq.mp hf) (wpAny_mono h (fun r s' hr => ?_) fun _ _ y => y))
  cases r <;> first | exact hr.elim | skip
  rename_i n u
  obtain ⟨⟨h0, h1⟩, k, t, e, hq⟩ := hr
  refine wpAny_bind (wpAny_holding (wpAny_pure ?_))
  refine wpAny_bind (wpAny_letGo ?_)
  show wpAny _ _ (if n < 0 then _ else _) _ _ _
  rw [if_neg (by omega)]
  show wpAny _ _ (if n ≥ 2 ^ 63 then _ else _) _ _ _
  rw [if_neg (by omega)]
  cases e
  exact wpAny_bind (wpAny_mkInt (wpAny_pure (wpAny_pure hq)))
end
theorem lenF_fit {k : Int} {xs : List (Str × Str)} (hsz : ∀ p ∈ xs, p.1.length ≤ 1000 ∧ p.2.length ≤ 1000) (hln : xs.length ≤ 1000) (hk0 : 0 ≤ k) (hk1 : k ≤ 1000) : 0 ≤ lenF k xs ∧ lenF k xs < 2 ^ 63 := by
  have h := preSum_len' hsz _ (Nat.le_refl _)
  rw [← preSum_lenF]
  omega
section
variable {w : World} {news : Led} {x dx : Addr} {its : Array Value} {n : Nat} {hh : Int} {tk : Tok} {k : Int} {t : Tok} {ps : Array Value} {xs : List (Str × Str)}
   {p : PySem.Program} {loose : List Str} {mean : ExcName → Option Value} {mg mb : Str → Option Value} {dp un : Nat} {gd : Option (List Code)} {cn : Str} {cs : Scope} {L a : Addr} {ccd : Value} {cl : List (Str × Addr)} {outer : List Env}
   {A₀ : Around} {base h₀ : Heap} {m : Str → Option Value} {s : Shared} {E : Value → Shared → Prop}
theorem len_use {Q : Value → Shared → Prop} (hx : (x, accO dx its n) ∈ news) (hdx : (dx, sizeO hh tk k t) ∈ news) (htab : (76, tabO ps) ∈ news) (htr : TriplesOk ps.toList) (hp : PairsIn news its.toList xs) (hsz : ∀ p ∈ xs, p.1.length ≤ 1000 ∧ p.2.length ≤ 1000) (hln : xs.length ≤ 1000) (hk0 : 0 ≤ k) (hk1 : k ≤ 1000)
   (B : Below A₀ base outer h₀) (F : Fr h₀ L s.heap m) (X : (hd.heap_39 w.params).In h₀) (N : News h₀ L s.heap news) (T : Top p loose mean mg mb h₀) (X24 : h₀.get? 24 = some (set24 w.params)) (hk : cs.kind = .function) (hdp : dp + 8 < recursionLimit) (hun : un + 90 < cLine)
   (ret : ∀ t' h' tk' gs' ps', Bare s.gens gs' → TriplesOk ps'.toList → Fr h₀ L h' m → News h₀ L h' (updL 76 (tabO ps') news) → Q (.int (lenF k xs) t') { s with heap := h', toks := tk', gens := gs' }) :
   wpAny (model Challenge.rw_wo0004_01.row.prog w) (ktrTop dp un gd cn cs L a ccd cl outer) (call (.builtin "len") [.ref x]) Q E s := by
  refine acc_len F X N hx hdx ?_
  refine (Spec.use (un := un + 1) (len_spec hx hdx htab htr hp hsz hln hk0 hk1) B F X N T X24 hk hdp (by omega) ?_ : wpAny _ (ktrTop dp (un + 1) gd cn cs L a ccd cl outer) _ _ _ _)
  rintro v news' h' tk' gs' hb F' N' ⟨t', rfl, ps', ht, rfl⟩
  exact ⟨lenF_fit hsz hln hk0 hk1, ret _ _ _ _ _ hb ht F' N'⟩
theorem truthy_use {Q : Bool → Shared → Prop} (hx : (x, accO dx its n) ∈ news) (hdx : (dx, sizeO hh tk k t) ∈ news) (htab : (76, tabO ps) ∈ news) (htr : TriplesOk ps.toList) (hp : PairsIn news its.toList xs) (hsz : ∀ p ∈ xs, p.1.length ≤ 1000 ∧ p.2.length ≤ 1000) (hln : xs.length ≤ 1000) (hk0 : 0 ≤ k) (hk1 : k ≤ 1000)
   (B : Below A₀ base outer h₀) (F : Fr h₀ L s.heap m) (X : (hd.heap_39 w.params).In h₀) (N : News h₀ L s.heap news) (T : Top p loose mean mg mb h₀) (X24 : h₀.get? 24 = some (set24 w.params)) (hk : cs.kind = .function) (hdp : dp + 8 < recursionLimit) (hun : un + 90 < cLine)
   (ret : ∀ h' tk' gs' ps', Bare s.gens gs' → TriplesOk ps'.toList → Fr h₀ L h' m → News h₀ L h' (updL 76 (tabO ps') news) → Q (lenF k xs != 0) { s with heap := h', toks := tk', gens := gs' }) :
   wpAny (model Challenge.rw_wo0004_01.row.prog w) (ktrTop dp un gd cn cs L a ccd cl outer) (truthy (.ref x)) Q E s := by
  refine acc_truthy F X N hx hdx ?_
  refine (Spec.use (un := un + 1) (len_spec hx hdx htab htr hp hsz hln hk0 hk1) B F X N T X24 hk hdp (by omega) ?_ : wpAny _ (ktrTop dp (un + 1) gd cn cs L a ccd cl outer) _ _ _ _)
  rintro v news' h' tk' gs' hb F' N' ⟨t', rfl, ps', ht, rfl⟩
  exact ⟨lenF_fit hsz hln hk0 hk1, _, _, rfl, ret _ _ _ _ hb ht F' N'⟩
theorem str_use {Q : Value → Shared → Prop} {osz : Obj} (hx : (x, accO dx its n) ∈ news) (hdx : (dx, osz) ∈ news) (htab : (83, tabO ps) ∈ news) (htr : TriplesOk ps.toList) (hp : PairsIn news its.toList xs) (hsz : ∀ p ∈ xs, p.1.length ≤ 1000 ∧ p.2.length ≤ 1000) (hln : xs.length ≤ 1000)
   (B : Below A₀ base outer h₀) (F : Fr h₀ L s.heap m) (X : (hd.heap_39 w.params).In h₀) (N : News h₀ L s.heap news) (T : Top p loose mean mg mb h₀) (X24 : h₀.get? 24 = some (set24 w.params)) (hk : cs.kind = .function) (hdp : dp + 8 < recursionLimit) (hun : un + 90 < cLine)
   (ret : ∀ t' h' tk' gs' ps', Bare s.gens gs' → TriplesOk ps'.toList → Fr h₀ L h' m → News h₀ L h' (updL 83 (tabO ps') news) → Q (.str (strF xs) t') { s with heap := h', toks := tk', gens := gs' }) :
   wpAny (model Challenge.rw_wo0004_01.row.prog w) (ktrTop dp un gd cn cs L a ccd cl outer) (call (.type "str") [.ref x]) Q E s := by
  refine acc_str (by show un + 1 + 1 < cLine; omega) F X N hx hdx ?_
  refine (Spec.use (un := un + 2) (str_spec hx hdx htab htr hp hsz hln) B F X N T X24 hk hdp (by omega) ?_ : wpAny _ (ktrTop dp (un + 2) gd cn cs L a ccd cl outer) _ _ _ _)
  rintro v news' h' tk' gs' hb F' N' ⟨t', rfl, ps', ht, rfl⟩
  exact ret _ _ _ _ _ hb ht F' N'
end
theorem PairsIn.updN {h₀ h : Heap} {L P : Addr} {nw : Led} {o o' : Obj} {vs : List Value} {xs : List (Str × Str)} (N : News h₀ L h nw) (hP : (P, o) ∈ nw) (ho : ∀ a b t u, o ≠ pairO a b t u) (hp : PairsIn nw vs xs) : PairsIn (updL P o' nw) vs xs :=
  ⟨hp.1, fun i p e => by
    obtain ⟨q, t, u, e1, e2⟩ := hp.2 i p e
    exact ⟨q, t, u, e1, mem_updL_ne e2 fun hq => by
      have h1 := (N _ e2).1
      have h2 := (N _ hP).1
      rw [hq, h2] at h1
      exact ho _ _ _ _ (Option.some.inj h1)⟩⟩
set_option maxHeartbeats 1000000 in
theorem ws_spec {w : World} {news : Led} {x dx : Addr} {its : Array Value} {n : Nat} {hh : Int} {tk : Tok} {k : Int} {t : Tok} {ps1 ps2 : Array Value} {xs : List (Str × Str)}
   (hx : (x, accO dx its n) ∈ news) (hdx : (dx, sizeO hh tk k t) ∈ news) (h76 : (76, tabO ps1) ∈ news) (h83 : (83, tabO ps2) ∈ news) (ht1 : TriplesOk ps1.toList) (ht2 : TriplesOk ps2.toList) (hp : PairsIn news its.toList xs) (hsz : ∀ p ∈ xs, p.1.length ≤ 1000 ∧ p.2.length ≤ 1000) (hln : xs.length ≤ 1000) (hk0 : 0 ≤ k) (hk1 : k ≤ 1000) :
   Spec 12 w 103 [.ref x] news (fun v news' => v = .bool (decide (k = 0) && (decide (lenF k xs = 0) || Txt.isspace (strF xs))) ∧ Keep [76, 83] news news' ∧ ∃ ps1' ps2', TriplesOk ps1'.toList ∧ TriplesOk ps2'.toList ∧ (76, tabO ps1') ∈ news' ∧ (83, tabO ps2') ∈ news') := by
  intro p loose mean mg mb dp un gd cn cs' L a ccd cl outer A₀ base h₀ m s Q E B F X N T X24 hk hdp hun ret
  refine wpAny_call ?_
  k_dflt (refine' code_def ?k1 ?k2 ?k3 ?k4 ?k5 ?kA ?kF ?kK ?k6 ?k7 ?k8 ?k9 ?kB ?_ ?c2 ?c3 ?c4 ?c5; (case kA => exact rfl); (case kF => exact rfl); (case kK => first | assumption | exact rfl); (case k1 => k_asm); (case k2 => k_asm); (case k3 => k_asm); (case k4 => k_asm); (case k5 => k_asm); (case k6 => k_is); (case k7 => k_is); (case k8 => k_room); (case k9 => first | exact BindsTo.of_eq rfl | exact binds_K (by k_in) rfl (by k_is) rfl rfl rfl); (case c5 => decide); (case kB => exact locs rfl); (case c2 => exact rfl); (case c3 => exact rfl); (case c4 => exact rfl); k_whole)
  intro g1 L1 h1 FG F1 N1 B1 X1 T1
  (try dsimp only)
  (try k_lift B1)
  obtain ⟨m1, F2, hm⟩ : ∃ m1, Fr g1 L1 h1 m1 ∧ (m1 (Str.ofString "self") = some (.ref x) ∧ True) := ⟨_, F1, rfl, trivial⟩
  obtain ⟨hm1, _⟩ := hm
  clear F1
  (try k_fold)
  k_steps
  · rename_i hk00
    k_dflt (refine' truthy_use hx hdx h76 ht1 hp hsz hln hk0 hk1 ?sB ?sF ?sX ?sN ?sT ?s24 ?sK ?sD ?sU ?_; k_extra "x_inv"; k_whole)
    intro h3 tk3 gs3 ps3 hG3 ht3 F3 N3
    have hx76 : x ≠ 76 := led_ne N1 hx h76 (by intro e; cases e)
    have hx83 : x ≠ 83 := led_ne N1 hx h83 (by intro e; cases e)
    have hd76 : dx ≠ 76 := led_ne N1 hdx h76 (by intro e; cases e)
    have hd83 : dx ≠ 83 := led_ne N1 hdx h83 (by intro e; cases e)
    have h87 : (83 : Addr) ≠ 76 := by decide
    have hp3 : PairsIn (updL 76 (tabO ps3) news) its.toList xs := PairsIn.updN N1 h76 (by intro a b t u e; cases e) hp
    k_steps
    · k_dflt (refine' str_use (mem_updL_ne hx hx76) (mem_updL_ne hdx hd76) (mem_updL_ne h83 h87) ht2 hp3 hsz hln ?sB ?sF ?sX ?sN ?sT ?s24 ?sK ?sD ?sU ?_; k_extra "x_inv"; k_whole)
      intro t4 h4 tk4 gs4 ps4 hG4 ht4 F4 N4
      k_steps
      rename_i hz _ _ _ _
      exact ret _ _ _ _ _ (by k_asm) (by k_asm) ⟨by simp [hk00] at hz ⊢; simp [hz], fun p hp hn => mem_updL_ne (mem_updL_ne hp (by simp at hn; exact hn.1)) (by simp at hn; exact hn.2), _, _, ht3, ht4, mem_updL_ne (mem_updL_self h76) (Ne.symm h87), mem_updL_self (mem_updL_ne h83 h87)⟩ (hG3.trans hG4)
    · rename_i hz _ _ _ _
      exact ret _ _ _ _ _ (by k_asm) (by k_asm) ⟨by simp [hk00] at hz ⊢; simp [hz], fun p hp hn => mem_updL_ne hp (by simp at hn; exact hn.1), _, _, ht3, ht2, mem_updL_self h76, mem_updL_ne h83 h87⟩ hG3
  · rename_i hk00 _ _ _ _
    exact ret _ _ _ _ _ (by k_asm) (by k_asm) ⟨by simp [hk00], fun p hp _ => hp, _, _, ht1, ht2, h76, h83⟩
/-! rows: a list of _Accumulators in the ledger -/
set_option maxHeartbeats 0 in
theorem popfrom0_spec {w : World} {news : List (Addr × Obj)} {x dx : Addr} {items : Array Value} {n : Nat} {osz : Obj}
   (hx : (x, accO dx items n) ∈ news) (hdx : (dx, osz) ∈ news) (hsz : items.size ≤ 1000) :
   Spec 3 w 66 [.ref x] news (fun v news' => ∃ l n', v = .ref l ∧ (∀ p ∈ news, p.1 < l) ∧ news' = updL x (accO dx (items.extract 0 0) n') ((l, listOf (items.toList.drop 0).toArray 0) :: news)) := by
  intro p loose mean mg mb dp un gd cn cs L a' ccd cl outer A₀ base h₀ m s Q E B F X N T X24 hk hdp hun ret
  have hk0 : (0 : Int) ≤ 0 := Int.le_refl _
  have hk1 : (0 : Int) ≤ items.size := Int.natCast_nonneg _
  refine wpAny_call ?_
  k_extra "x_enter"
  k_steps
  exact ret _ _ _ _ _ (by k_asm) (drop_popfrom (by assumption) hk0 hk1) ⟨_, _, rfl, by assumption, rfl⟩
section
variable {prog : Program} {w : World} {A : Around} {E : Value → Shared → Prop} {s : Shared} {h₀ : Heap} {L l l2 : Addr} {news : Led} {vs : List Value} {n n2 : Nat}
theorem eq_nil {Q : Value → Shared → Prop} (hl : s.heap.IsList l vs.toArray) (h2 : s.heap.IsList l2 (List.toArray [])) (hu : A.units < cLine) (h : Q (.bool (decide (vs = []))) s) : wpAny (model prog w) A (compareOp .Eq (.ref l) (.ref l2)) Q E s := by
  cases vs with
  | nil => exact SeqAt.eq_listAt (e := fun _ => true) hl h2 rfl hu (fun j h1 _ => absurd h1 (Nat.not_lt_zero _)) h
  | cons v vs => exact SeqAt.eq_list_lengthsAt hl h2 (by simp) hu h
end
abbrev pairD (p : Str × Str) : PyData := .tuple [.str p.1, .str p.2]
theorem reads_pairs {h₀ h : Heap} {L : Addr} {nw : Led} (N : News h₀ L h nw) : ∀ {xs : List (Str × Str)} {vs : List Value}, PairsIn nw vs xs → ReadsAll h vs (xs.map pairD) []
  | [], [], _ => .nil
  | [], _ :: _, hp => by have := hp.1; simp at this
  | _ :: _, [], hp => by have := hp.1; simp at this
  | x :: xs, v :: vs, hp => by
    obtain ⟨q, t, u, e1, e2⟩ := hp.2 0 x rfl
    have e1 : v = .ref q := by simpa using e1
    subst e1
    have r := reads_pairs N (hp.drop 1)
    exact .cons (as := []) (.tuple (N _ e2).1 rfl rfl (.cons (as := []) (.str _ _) (.cons (as := []) (.str _ _) .nil))) r
def PairOk (p : Str × Str) : Prop := PyData.strOk p.1 = true ∧ PyData.strOk p.2 = true
theorem canLayAll0_pairs : ∀ xs : List (Str × Str), (∀ p ∈ xs, PairOk p) → PyData.canLayAll0 (xs.map pairD) = true
  | [], _ => by simp [PyData.canLayAll0]
  | p :: r, h => by
    have h1 := h p List.mem_cons_self
    simp [PyData.canLayAll0, PyData.canLay0, canLayAll0_pairs r (fun q hq => h q (List.mem_cons_of_mem _ hq)), h1.1, h1.2]
theorem depthAll_pairs : ∀ xs : List (Str × Str), PyData.depthAll (xs.map pairD) ≤ 2
  | [] => by simp [PyData.depthAll]
  | p :: r => by
    have := depthAll_pairs r
    simp only [List.map_cons, PyData.depthAll, PyData.depth]
    omega
theorem shaped_pairs (xs : List (Str × Str)) (h : ∀ p ∈ xs, PairOk p) : SeqAt.shaped (.list (xs.map pairD)) = true := by
  have h1 := depthAll_pairs xs
  have h2 : PyData.depth (.list (xs.map pairD)) ≤ 64 := by simp only [PyData.depth]; omega
  show (PyData.canLay0 (.list (xs.map pairD)) && decide (PyData.depth (.list (xs.map pairD)) ≤ 64)) = true
  rw [Bool.and_eq_true]
  exact ⟨by simp only [PyData.canLay0]; exact canLayAll0_pairs xs h, decide_eq_true h2⟩
section
variable {prog : Program} {w : World} {A : Around} {E : Value → Shared → Prop} {s : Shared} {h₀ : Heap} {L l l2 : Addr} {news : Led} {vs : List Value} {xs : List (Str × Str)} {n n2 : Nat}
theorem ne_nil {Q : Value → Shared → Prop} (N : News h₀ L s.heap news) (hm : (l, listOf vs.toArray n) ∈ news) (hp : PairsIn news vs xs) (hok : ∀ p ∈ xs, PairOk p) (hm2 : (l2, listOf (List.toArray []) n2) ∈ news) (hu : A.units + 64 < cLine) (h : Q (.bool (!decide (xs = []))) s) : wpAny (model prog w) A (compareOp .NotEq (.ref l) (.ref l2)) Q E s := by
  refine ne_dataH_same (da := .list (xs.map pairD)) (db := .list []) (.list (N _ hm).1 rfl rfl (by simpa using reads_pairs N hp)) (.list (N _ hm2).1 rfl rfl .nil) (shaped_pairs xs hok) (shaped_pairs [] (fun _ h => nomatch h)) hu ?_ ?_
  · cases xs <;> simp [SeqAt.noMix, SeqAt.noMixAll]
  · cases xs with
    | nil => simpa [PySem.Spec.same, PySem.Spec.sameAll] using h
    | cons x xs => simpa [PySem.Spec.same, PySem.Spec.sameAll] using h
end
theorem Spec.mono {r : Nat} {w : World} {f : Addr} {vs : List Value} {news : Led} {R R' : Value → Led → Prop} (S : Spec r w f vs news R) (h : ∀ v nw, R v nw → R' v nw) : Spec r w f vs news R' := by
  intro p loose mean mg mb dp un gd cn cs L a ccd cl outer A₀ base h₀ m s Q E B F X N T X24 hk hdp hun ret
  exact S p loose mean mg mb dp un gd cn cs L a ccd cl outer A₀ base h₀ m s Q E B F X N T X24 hk hdp hun fun v n' h' tk' gs' F' N' r' b' => ret v n' h' tk' gs' F' N' (h v n' r') b'
theorem updL_head {x l : Addr} {o o' : Obj} {news : Led} (h : l ≠ x) : updL x o ((l, o') :: news) = (l, o') :: updL x o news := by
  unfold updL
  simp [h]
theorem popA0 {w : World} {news : Led} {x dx : Addr} {items : Array Value} {n : Nat} {osz : Obj} (hx : (x, accO dx items n) ∈ news) (hdx : (dx, osz) ∈ news) (hsz : items.size ≤ 1000) :
   Spec 3 w 66 [.ref x] news (fun v news' => ∃ l n', v = .ref l ∧ (∀ p ∈ news, p.1 < l) ∧ l ≠ x ∧ news' = (l, listOf items.toList.toArray 0) :: updL x (accO dx #[] n') news) :=
  (popfrom0_spec hx hdx hsz).mono fun v nw hh => by obtain ⟨l, n', e, hl, e'⟩ := hh; exact ⟨l, n', e, hl, Ne.symm (Nat.ne_of_lt (hl _ hx)), by rw [e', updL_head (Ne.symm (Nat.ne_of_lt (hl _ hx)))]; simp⟩
theorem popA {w : World} {news : Led} {x dx : Addr} {items : Array Value} {n : Nat} {osz : Obj} {k : Int} {t : Tok} (hx : (x, accO dx items n) ∈ news) (hdx : (dx, osz) ∈ news) (hsz : items.size ≤ 1000) (hk0 : 0 ≤ k) (hk1 : k ≤ items.size) :
   Spec 3 w 66 [.ref x, .int k t] news (fun v news' => ∃ l n', v = .ref l ∧ (∀ p ∈ news, p.1 < l) ∧ l ≠ x ∧ news' = (l, listOf (items.toList.drop k.toNat).toArray 0) :: updL x (accO dx (items.extract 0 k.toNat) n') news) :=
  (popfrom_spec hx hdx hsz hk0 hk1).mono fun v nw hh => by obtain ⟨l, n', e, hl, e'⟩ := hh; exact ⟨l, n', e, hl, Ne.symm (Nat.ne_of_lt (hl _ hx)), by rw [e', updL_head (Ne.symm (Nat.ne_of_lt (hl _ hx)))]⟩
theorem pushA {w : World} {news : Led} {x dx : Addr} {items : Array Value} {n : Nat} {osz : Obj} {a b : Value} (hx : (x, accO dx items n) ∈ news) (hdx : (dx, osz) ∈ news) (hos : shadowIn (some osz) (Str.ofString "append") = some false) (hsz : items.size ≤ 1000) :
   Spec 3 w 58 [.ref x, a, b] news (fun v news' => v = .none ∧ ∃ q, (∀ p ∈ news, p.1 < q) ∧ q ≠ x ∧ news' = (q, { cls := .type "tuple", data := .seq #[a, b] }) :: updL x (accO dx (items.push (.ref q)) (n + 1)) news) :=
  (push_spec hx hdx hos hsz).mono fun v nw hh => by obtain ⟨e, q, hl, e'⟩ := hh; exact ⟨e, q, hl, Ne.symm (Nat.ne_of_lt (hl _ hx)), by rw [e', updL_head (Ne.symm (Nat.ne_of_lt (hl _ hx)))]⟩
theorem rules_24_1 : True := by
  (k_with "call ref" => ((k_here; (show wpAny _ _ (call (Value.ref 111) [_]) _ _ _); k_dflt (refine' Spec.use (count_spec ?z0s1 ?z0s2) ?sB ?sF ?sX ?sN ?sT ?s24 ?sK ?sD ?sU ?_; k_extra "x_inv"; (case z0s1 => k_mem); (case z0s2 => k_mem); k_whole); intro _ _ _ _ _ _ _ _ hR9; (obtain ⟨⟨_, e9⟩, e9'⟩ := hR9); subst e9; subst e9'; (try k_sweep))))
  (k_with "call ref" => ((k_here; (show wpAny _ _ (call (Value.ref 58) [_, _, _]) _ _ _); k_dflt (refine' Spec.use (pushA ?z0s1 ?z0s2 ?z0s3 ?z0s4) ?sB ?sF ?sX ?sN ?sT ?s24 ?sK ?sD ?sU ?_; k_extra "x_inv"; (case z0s1 => k_mem); (case z0s2 => k_mem); (case z0s3 => exact rfl); (case z0s4 => first | with_reducible assumption | omega); k_whole); intro _ _ _ _ _ _ _ _ hR9; (obtain ⟨e9, _, _, _, e9'⟩ := hR9); subst e9; subst e9'; (try k_sweep))))
  (k_with "call ref" => ((k_here; (show wpAny _ _ (call (Value.ref 66) [_]) _ _ _); k_dflt (refine' Spec.use (popA0 ?z0s1 ?z0s2 ?z0s3) ?sB ?sF ?sX ?sN ?sT ?s24 ?sK ?sD ?sU ?_; k_extra "x_inv"; (case z0s1 => k_mem); (case z0s2 => k_mem); (case z0s3 => first | with_reducible assumption | omega); k_whole); intro _ _ _ _ _ _ _ _ hR9; (obtain ⟨_, _, e9, _, _, e9'⟩ := hR9); subst e9; subst e9'; (try k_sweep))))
  (k_with "call ref" => ((k_here; (show wpAny _ _ (call (Value.ref 66) [_, _]) _ _ _); k_dflt (refine' Spec.use (popA ?z0s1 ?z0s2 ?z0s3 ?z0s4 ?z0s5) ?sB ?sF ?sX ?sN ?sT ?s24 ?sK ?sD ?sU ?_; k_extra "x_inv"; (case z0s1 => k_mem); (case z0s2 => k_mem); (case z0s3 => first | with_reducible assumption | omega); (case z0s4 => first | with_reducible assumption | omega); (case z0s5 => first | with_reducible assumption | omega); k_whole); intro _ _ _ _ _ _ _ _ hR9; (obtain ⟨_, _, e9, _, _, e9'⟩ := hR9); subst e9; subst e9'; (try k_sweep))))
  (k_with "subscriptTail" => ((k_here; (with_reducible show wpAny _ _ (subscriptTail _ _ (Value.ref _) (Value.int _ _)) _ _ _); k_dflt (refine' lst_sub ?z0k1 ?z0k2 ?z0k3 ?_ ?z0k7; (case z0k1 => k_asm); (case z0k3 => with_reducible assumption); (case z0k2 => k_mem); (case z0k7 => with_unfolding_all rfl); k_whole))))
  (k_with "callWith ref" => ((k_here; (first | (with_reducible show wpAny _ _ (callWith _ (Value.ref 66) [_] _ _) _ _ _) | (with_reducible show wpAny _ _ (callWith _ (Value.ref 111) [_] _ _) _ _ _) | fail "no acc method"); (first | (show wpAny _ _ (callWith _ (Value.ref 66) [_] (backTo _ (starEach [] _)) []) _ _ _) | (show wpAny _ _ (callWith _ (Value.ref 111) [_] (backTo _ (starEach [] _)) []) _ _ _) | fail "no acc method"); k_dflt (refine' callWith_K0 ?z0k1 ?z0k2 ?_; (case z0k1 => k_in); (case z0k2 => k_is); k_whole); dsimp only [List.nil_append, List.cons_append]; walk_at "call ref")))
  trivial
inductive RowAt (nw : Led) (x dx : Addr) (r : List (Str × Str)) (k : Int) : Prop
  | mk (its : Array Value) (n : Nat) (hh : Int) (tk t : Tok) (_ : (x, accO dx its n) ∈ nw) (_ : (dx, sizeO hh tk k t) ∈ nw) (_ : PairsIn nw its.toList r)
def RowsIn (nw : Led) (xs : List (Addr × Addr)) (R : List (List (Str × Str))) (ks : List Int) : Prop :=
  xs.length = R.length ∧ (∀ (i j : Nat) (p q : Addr × Addr), xs[i]? = some p → xs[j]? = some q → i ≠ j → p.1 ≠ q.1) ∧ ∀ i x dx, xs[i]? = some (x, dx) → RowAt nw x dx (R.getD i []) (ks.getD i 0)
section
open Lx
theorem getD_set_ne {α : Type} {R : List α} {i j : Nat} {r d : α} (h : i ≠ j) : (R.set i r).getD j d = R.getD j d := by
  rw [List.getD_eq_getElem?_getD, List.getElem?_set_ne h, ← List.getD_eq_getElem?_getD]
theorem getD_set_self {α : Type} {R : List α} {i : Nat} {r d : α} (h : i < R.length) : (R.set i r).getD i d = r := by
  rw [List.getD_eq_getElem?_getD, List.getElem?_set_self h]; rfl
/-! _law_slide -/
abbrev P0 : Str × Str := (⟨#[]⟩, ⟨#[]⟩)
structure SSt where
  at_ : Nat
  gap : Nat
  tail : List (Str × Str)
  R : List (List (Str × Str))
def SSt.row (s : SSt) (i : Nat) : List (Str × Str) := s.R.getD i []
def SSt.under (s : SSt) : Str := if s.at_ + 1 < s.R.length ∧ s.gap < (s.row (s.at_ + 1)).length then ((s.row (s.at_ + 1)).getD s.gap P0).2 else eS
def SSt.stay (s : SSt) : SSt := ⟨s.at_, s.gap + 1, s.tail.drop 1, s.R.set s.at_ (s.row s.at_ ++ [s.tail.getD 0 P0])⟩
def SSt.down (ms : List Str) (s : SSt) : SSt := ⟨s.at_ + 1, s.gap, ((s.row (s.at_ + 1)).drop s.gap).drop 1, (s.R.set s.at_ (s.row s.at_ ++ [(ms.getD s.at_ ⟨#[]⟩, s.under)] ++ s.tail)).set (s.at_ + 1) ((s.row (s.at_ + 1)).take s.gap)⟩
def slideN (ms : List Str) : Nat → SSt → Nat × List (List (Str × Str))
  | 0, s => (s.at_, s.R)
  | f + 1, s => if s.tail = [] ∧ s.under = eS then (s.at_, s.R)
    else if s.under = eS ∨ (s.tail ≠ [] ∧ (s.tail.getD 0 P0).2.cps.toList < s.under.cps.toList) then slideN ms f s.stay
    else slideN ms f (s.down ms)
def SSt.measure (s : SSt) : Nat := (s.R.length - s.at_) * 1000 + s.tail.length
def slideStart (R : List (List (Str × Str))) : SSt := ⟨0, 0, (R.getD 0 []).drop 1, R.set 0 []⟩
def slideF (ms : List Str) (R : List (List (Str × Str))) : Nat × List (List (Str × Str)) := slideN ms (R.length * 1000 + 1000) (slideStart R)
inductive RowGet (nw : Led) (xs : List (Addr × Addr)) (r : List (Str × Str)) (k : Int) (i : Nat) : Prop
  | mk (x dx : Addr) (its : Array Value) (n : Nat) (hh : Int) (tk t : Tok) (_ : xs[i]? = some (x, dx)) (_ : (x, accO dx its n) ∈ nw) (_ : (dx, sizeO hh tk k t) ∈ nw) (_ : PairsIn nw its.toList r)
theorem RowsIn.get {nw : Led} {xs : List (Addr × Addr)} {R : List (List (Str × Str))} {ks : List Int} (h : RowsIn nw xs R ks) {i : Nat} (hi : i < R.length) : RowGet nw xs (R.getD i []) (ks.getD i 0) i := by
  have hi' : i < xs.length := by rw [h.1]; exact hi
  obtain ⟨its, n, hh, tk, t, a, b, c⟩ := h.2.2 i xs[i].1 xs[i].2 (by rw [List.getElem?_eq_getElem hi'])
  exact ⟨_, _, its, n, hh, tk, t, by rw [List.getElem?_eq_getElem hi'], a, b, c⟩
theorem PairsIn.keepN {h₀ h : Heap} {L P : Addr} {nw nw' : Led} {o : Obj} {vs : List Value} {xs : List (Str × Str)} (N : News h₀ L h nw) (hP : (P, o) ∈ nw) (ho : ∀ a b t u, o ≠ pairO a b t u) (hk : ∀ p ∈ nw, p.1 ≠ P → p ∈ nw') (hp : PairsIn nw vs xs) : PairsIn nw' vs xs :=
  ⟨hp.1, fun i p e => by
    obtain ⟨q, t, u, e1, e2⟩ := hp.2 i p e
    exact ⟨q, t, u, e1, hk _ e2 fun hq => by
      have h1 := (N _ e2).1
      have h2 := (N _ hP).1
      rw [hq, h2] at h1
      exact ho _ _ _ _ (Option.some.inj h1)⟩⟩
theorem RowsIn.set {h₀ h : Heap} {L : Addr} {nw nw' : Led} {xs : List (Addr × Addr)} {R : List (List (Str × Str))} {ks : List Int} (H : RowsIn nw xs R ks) (N : News h₀ L h nw) {i : Nat} {x dx : Addr} {r : List (Str × Str)} {its its' : Array Value} {n n' : Nat}
    (hx : xs[i]? = some (x, dx)) (h0 : (x, accO dx its n) ∈ nw) (hk : ∀ p ∈ nw, p.1 ≠ x → p ∈ nw') (h1 : (x, accO dx its' n') ∈ nw') (hp : PairsIn nw' its'.toList r) : RowsIn nw' xs (R.set i r) ks := by
  refine ⟨by rw [List.length_set]; exact H.1, H.2.1, fun j xj dj hj => ?_⟩
  obtain ⟨itj, nj, hh, tk, t, a, b, c⟩ := H.2.2 j xj dj hj
  have hd : dj ≠ x := led_ne N b h0 (by intro e; cases e)
  have hi : i < R.length := by rw [← H.1]; exact (List.getElem?_eq_some_iff.mp hx).1
  by_cases e : j = i
  · subst e
    rw [hx] at hj
    cases hj
    exact ⟨its', n', hh, tk, t, h1, hk _ b hd, by rw [List.getD_eq_getElem?_getD, List.getElem?_set_self hi]; exact hp⟩
  · have hxj : xj ≠ x := H.2.1 j i _ _ hj hx e
    refine ⟨itj, nj, hh, tk, t, hk _ a hxj, hk _ b hd, ?_⟩
    rw [getD_set_ne (Ne.symm e)]
    exact c.keepN N h0 (by intro a b t u e; cases e) hk
theorem PairsIn.sub {nw nw' : Led} {vs : List Value} {xs : List (Str × Str)} (h : PairsIn nw vs xs) (k : ∀ p ∈ nw, p ∈ nw') : PairsIn nw' vs xs := h.mono fun p hp _ => k p hp
theorem RowsIn.sub {nw nw' : Led} {xs : List (Addr × Addr)} {R : List (List (Str × Str))} {ks : List Int} (h : RowsIn nw xs R ks) (k : ∀ p ∈ nw, p ∈ nw') : RowsIn nw' xs R ks :=
  ⟨h.1, h.2.1, fun i x dx e => by obtain ⟨its, n, hh, tk, t, a, b, c⟩ := h.2.2 i x dx e; exact ⟨its, n, hh, tk, t, k _ a, k _ b, c.sub k⟩⟩
section
variable {prog : Program} {w : World} {A : Around} {E : Value → Shared → Prop} {s : Shared} {h₀ : Heap} {L l : Addr} {news : Led} {a b : Str} {t u v : Tok}
theorem pair_sub0 {value slice : PySem.Expr} {Q : Value → Shared → Prop} (N : News h₀ L s.heap news) (hm : (l, pairO a b t u) ∈ news) (h : Q (.str a t) s)
    (hs : subscripted slice false (.ref l) (.int 0 v) = operate [.ref l, .int 0 v] (getItem (.ref l) (.int 0 v))) : wpAny (model prog w) A (subscriptTail value slice (.ref l) (.int 0 v)) Q E s :=
  item_tupleT (t := l) (l := [.str a t, .str b u]) ⟨_, (N _ hm).1, rfl, 0, by simp⟩ (by omega) (by omega) (j := 0) rfl rfl h hs
theorem pair_sub1 {value slice : PySem.Expr} {Q : Value → Shared → Prop} (N : News h₀ L s.heap news) (hm : (l, pairO a b t u) ∈ news) (h : Q (.str b u) s)
    (hs : subscripted slice false (.ref l) (.int 1 v) = operate [.ref l, .int 1 v] (getItem (.ref l) (.int 1 v))) : wpAny (model prog w) A (subscriptTail value slice (.ref l) (.int 1 v)) Q E s :=
  item_tupleT (t := l) (l := [.str a t, .str b u]) ⟨_, (N _ hm).1, rfl, 0, by simp⟩ (by omega) (by omega) (j := 1) rfl rfl h hs
end
/-- marks in the context: the walk is to stop at an item that wants facts first -/
def StopA : Prop := True
def StopB : Prop := True
theorem rules_25_1 : True := by
  (k_with "subscriptTail Name" => ((k_here; (with_reducible rename StopA => zs); refine Hold.in ?_)))
  (k_with "subscriptTail List" => ((k_here; (with_reducible rename StopB => zs); refine Hold.in ?_)))
  (k_with "subscriptTail Subscript" => ((k_here; (with_reducible rename StopB => zs); (with_reducible show wpAny _ _ (subscriptTail (PySem.Expr.Subscript _ _ _) (PySem.Expr.Name _ _) (Value.ref _) (Value.int _ _)) _ _ _); refine Hold.in ?_)))
  (k_with "subscriptTail Call" => ((k_here; (with_reducible show wpAny _ _ (subscriptTail (PySem.Expr.Call _ _ _ _) (PySem.Expr.Slice _ _ _ _) (Value.ref _) (Value.ref _)) _ _ _); k_dflt (refine kba_turn (value' := PySem.Expr.Name (PySem.Str.ofString "_") ⟨0, 0, 0, 0⟩) (fun _ => rfl) ?_))))
  (k_with "subscriptTail" => ((k_here; (with_reducible show wpAny _ _ (subscriptTail _ _ (Value.ref _) (Value.int _ _)) _ _ _); k_dflt (refine' acc_item ?z0k1 ?z0k2 ?z0k3 ?z0k4 ?z0k5 ?z0k6 ?z0k7 ?z0k8 ?_ ?z0k9; (case z0k1 => k_asm); (case z0k2 => k_asm); (case z0k3 => k_asm); (case z0k8 => with_reducible assumption); (case z0k4 => k_mem); (case z0k5 => k_mem); (case z0k6 => first | with_reducible assumption | omega); (case z0k7 => first | with_reducible assumption | omega); (case z0k9 => with_unfolding_all rfl); k_whole))))
  (k_with "compareOp Eq ref ref" => ((k_here; (with_reducible show wpAny _ _ (compareOp CmpOp.Eq (Value.ref _) (Value.ref _)) _ _ _); k_dflt (refine' eq_nil ?z0l ?z0r ?z0u ?_; (case z0l => (refine' lst_is ?z0l1 ?z0l2; (case z0l1 => k_asm); (case z0l2 => k_mem))); (case z0r => (refine' lst_is ?z0l1 ?z0l2; (case z0l1 => k_asm); (case z0l2 => k_mem))); (case z0u => ((try simp only [units_deeper, units_in1]); (try dsimp only [ktrTop]); omega)); k_whole))))
  (k_with "compareOp NotEq ref ref" => ((k_here; (with_reducible show wpAny _ _ (compareOp CmpOp.NotEq (Value.ref _) (Value.ref _)) _ _ _); k_dflt (refine' ne_nil ?z0N ?z0l ?z0p ?z0o ?z0r ?z0u ?_; (case z0N => k_asm); (case z0l => k_mem); (case z0p => first | with_reducible assumption | (refine' PairsIn.sub ?z0pa ?z0pb; (case z0pa => with_reducible assumption); (case z0pb => (intro _ _; k_mem)))); (case z0o => with_reducible assumption); (case z0r => k_mem); (case z0u => ((try simp only [units_deeper, units_in1]); (try dsimp only [ktrTop]); omega)); k_whole))))
  (k_with "subscriptTail" => ((k_here; (with_reducible show wpAny _ _ (subscriptTail _ _ (Value.ref _) (Value.int 0 _)) _ _ _); k_dflt (refine' pair_sub0 ?z0k1 ?z0k2 ?_ ?z0k9; (case z0k1 => k_asm); (case z0k2 => k_mem); (case z0k9 => with_unfolding_all rfl); k_whole))))
  (k_with "subscriptTail" => ((k_here; (with_reducible show wpAny _ _ (subscriptTail _ _ (Value.ref _) (Value.int 1 _)) _ _ _); k_dflt (refine' pair_sub1 ?z0k1 ?z0k2 ?_ ?z0k9; (case z0k1 => k_asm); (case z0k2 => k_mem); (case z0k9 => with_unfolding_all rfl); k_whole))))
  (k_with "loadName" => ((k_here; k_dflt (refine' ldn ?z0k1 ?z0k2 ?_; (case z0k1 => k_asm); (case z0k2 => assumption); k_whole))))
  trivial
/-- a while loop whose turns may make generators -/
inductive WNext (h₀ : Heap) (L : Addr) (s : Shared) (J : Nat → (Str → Option Value) → Led → Prop) (n : Nat) (s₃ : Shared) : Prop
  | mk (h' : Heap) (tk : Nat) (gs : Array GenState) (m₂ : Str → Option Value) (news₂ : Led) (n' : Nat) (_ : s₃ = { s with heap := h', toks := tk, gens := gs }) (_ : Fr h₀ L h' m₂) (_ : News h₀ L h' news₂) (_ : n' < n) (_ : J n' m₂ news₂) (_ : Bare s.gens gs)
def WStep (h₀ : Heap) (L : Addr) (s : Shared) (J : Nat → (Str → Option Value) → Led → Prop) (Q : Flow → Shared → Prop) (n : Nat) (f : Flow) (s₃ : Shared) : Prop :=
  match f with
  | .next | .cont => WNext h₀ L s J n s₃
  | .brk => Q .next s₃
  | .ret v => Q (.ret v) s₃
theorem While_G {prog : Program} {w : World} {A : Around} {E : Value → Shared → Prop} {Q : Flow → Shared → Prop} {s : Shared} {env : Env} {h₀ : Heap} {L : Addr} {test : PySem.Expr} {body : List Stmt} {pos : Pos} {m : Str → Option Value} {news : Led} (J : Nat → (Str → Option Value) → Led → Prop) {n₀ : Nat}
    (F : Fr h₀ L s.heap m) (N : News h₀ L s.heap news) (hJ : J n₀ m news)
    (turn : ∀ n m₁ news₁ h₁ tk₁ gs₁, Bare s.gens gs₁ → Fr h₀ L h₁ m₁ → News h₀ L h₁ news₁ → J n m₁ news₁ →
      wpAny (model prog w) A (isTrue test env (eval test env)) (fun b s₂ =>
        if b = true then wpAny (model prog w) A (execs body env) (WStep h₀ L s J Q n) E s₂ else Q .next s₂) E { s with heap := h₁, toks := tk₁, gens := gs₁ })
    (hE : PassesOwn (model prog w) A env E := by passes_own) :
    wpAny (model prog w) A (exec (.While test body [] pos) env) Q E s := by
  refine wpAny_While (codeAny_whileLoop (fun n s' => ∃ h₁ tk₁ gs₁ m₁ news₁, s' = { s with heap := h₁, toks := tk₁, gens := gs₁ } ∧ Bare s.gens gs₁ ∧ Fr h₀ L h₁ m₁ ∧ News h₀ L h₁ news₁ ∧ J n m₁ news₁) ?_ n₀ ⟨s.heap, s.toks, s.gens, m, news, rfl, Bare.refl _, F, N, hJ⟩)
  rintro n s' ⟨h₁, tk₁, gs₁, m₁, news₁, rfl, B₁, F₁, N₁, J₁⟩
  refine wpAny_mono (turn n m₁ news₁ h₁ tk₁ gs₁ B₁ F₁ N₁ J₁) (fun b s₂ h₂ => ?_) hE
  cases b with
  | false =>
    simp only [Bool.false_eq_true, if_false] at h₂ ⊢
    exact wpAny_execs_nil h₂
  | true =>
    simp only [if_true] at h₂ ⊢
    refine wpAny_mono h₂ (fun f s₃ h₃ => ?_) hE
    cases f with
    | next =>
      obtain ⟨h', tk, gs, m₂, news₂, n', rfl, F₂, N₂, hn, J₂, B₂⟩ := h₃
      exact ⟨n', hn, h', tk, gs, m₂, news₂, rfl, B₂, F₂, N₂, J₂⟩
    | cont =>
      obtain ⟨h', tk, gs, m₂, news₂, n', rfl, F₂, N₂, hn, J₂, B₂⟩ := h₃
      exact ⟨n', hn, h', tk, gs, m₂, news₂, rfl, B₂, F₂, N₂, J₂⟩
    | brk => exact h₃
    | ret v => exact h₃
theorem len_set {α : Type} : ∀ {R : List (List α)} {i : Nat} (_ : i < R.length) (r : List α), ((R.set i r).map List.length).sum + (R.getD i []).length = (R.map List.length).sum + r.length
  | [], _, h, _ => absurd h (Nat.not_lt_zero _)
  | a :: R, 0, _, r => by simp; omega
  | a :: R, i + 1, h, r => by
    have ih := len_set (R := R) (i := i) (by simpa using h) r
    simp only [List.set_cons_succ, List.map_cons, List.sum_cons, List.getD_cons_succ]
    omega
theorem len_le_sum {α : Type} : ∀ {R : List (List α)} {r : List α}, r ∈ R → r.length ≤ (R.map List.length).sum
  | a :: R, r, h => by
    rcases List.mem_cons.mp h with rfl | h
    · simp
    · have := len_le_sum h; simp; omega
theorem len_get {α : Type} (R : List (List α)) (i : Nat) : (R.getD i []).length ≤ (R.map List.length).sum := by
  by_cases hi : i < R.length
  · rw [List.getD_eq_getElem?_getD, List.getElem?_eq_getElem hi]
    exact len_le_sum (List.getElem_mem _)
  · rw [List.getD_eq_getElem?_getD, List.getElem?_eq_none (Nat.not_lt.mp hi)]; simp
theorem ok_get {R : List (List (Str × Str))} (h : ∀ r ∈ R, ∀ p ∈ r, PairOk p) (i : Nat) : ∀ p ∈ R.getD i [], PairOk p := by
  by_cases hi : i < R.length
  · rw [List.getD_eq_getElem?_getD, List.getElem?_eq_getElem hi]
    exact h _ (List.getElem_mem _)
  · rw [List.getD_eq_getElem?_getD, List.getElem?_eq_none (Nat.not_lt.mp hi)]; simp
theorem PairsIn.keepC {h₀ h : Heap} {L : Addr} {nw nw' : Led} {C : List Addr} {vs : List Value} {xs : List (Str × Str)} (N : News h₀ L h nw) (hC : ∀ a ∈ C, ∃ o, (a, o) ∈ nw ∧ o.cls ≠ .type "tuple") (hk : Keep C nw nw') (hp : PairsIn nw vs xs) : PairsIn nw' vs xs :=
  ⟨hp.1, fun i p e => by
    obtain ⟨q, t, u, e1, e2⟩ := hp.2 i p e
    refine ⟨q, t, u, e1, hk _ e2 fun hq => ?_⟩
    obtain ⟨o, h1, h2⟩ := hC _ hq
    exact led_ne N h1 e2 h2 rfl⟩
theorem RowsIn.chg {h₀ h : Heap} {L : Addr} {nw nw' : Led} {xs : List (Addr × Addr)} {R R' : List (List (Str × Str))} {ks : List Int} (H : RowsIn nw xs R ks) (N : News h₀ L h nw) (C : List Addr) (hC : ∀ a ∈ C, ∃ dx its n, (a, accO dx its n) ∈ nw) (hk : Keep C nw nw') (hlen : R'.length = R.length)
    (hh : ∀ i x dx, xs[i]? = some (x, dx) → (x ∉ C ∧ R'.getD i [] = R.getD i []) ∨ ∃ its n, (x, accO dx its n) ∈ nw' ∧ PairsIn nw' its.toList (R'.getD i [])) : RowsIn nw' xs R' ks := by
  refine ⟨by rw [hlen]; exact H.1, H.2.1, fun j xj dj hj => ?_⟩
  obtain ⟨itj, nj, h1, tk, t, a, b, c⟩ := H.2.2 j xj dj hj
  have hd : dj ∉ C := fun hd => by
    obtain ⟨d2, i2, n2, h2⟩ := hC _ hd
    exact led_ne N b h2 (by intro e; cases e) rfl
  rcases hh j xj dj hj with ⟨hx, e⟩ | ⟨its, n, h2, h3⟩
  · exact ⟨itj, nj, h1, tk, t, hk _ a hx, hk _ b hd, by rw [e]; exact c.keepC N (fun a ha => by obtain ⟨d2, i2, n2, h2⟩ := hC _ ha; exact ⟨_, h2, by intro e; cases e⟩) hk⟩
  · exact ⟨its, n, h1, tk, t, h2, hk _ b hd, h3⟩
/-- the state of the walk, in the ledger -/
structure SlideAt (nw : Led) (xs : List (Addr × Addr)) (ks : List Int) (lt : Addr) (st : SSt) : Prop where
  rows : RowsIn nw xs st.R ks
  tail : ∃ vt nt, (lt, listOf vt.toArray nt) ∈ nw ∧ PairsIn nw vt st.tail
  inR : st.at_ < st.R.length
  few : (st.R.map List.length).sum + st.tail.length ≤ 200
  ok : ∀ p ∈ st.tail, PairOk p
  okR : ∀ r ∈ st.R, ∀ p ∈ r, PairOk p
theorem SlideAt.stay {h₀ h : Heap} {L : Addr} {nw nw' : Led} {xs : List (Addr × Addr)} {ks : List Int} {lt lt' x dx q : Addr} {st : SSt} {its : Array Value} {n n' nt : Nat} {t u : Tok} {vt : List Value} (S : SlideAt nw xs ks lt st) (N : News h₀ L h nw)
    (hx : xs[st.at_]? = some (x, dx)) (h0 : (x, accO dx its n) ∈ nw) (hp : PairsIn nw its.toList (st.R.getD st.at_ [])) (hvt : PairsIn nw vt st.tail) (hne : st.tail ≠ []) (hk : Keep [x] nw nw') (h1 : (x, accO dx (its.push (.ref q)) n') ∈ nw')
    (h2 : (q, pairO (st.tail.getD 0 P0).1 (st.tail.getD 0 P0).2 t u) ∈ nw') (h3 : (lt', listOf (vt.drop 1).toArray nt) ∈ nw') : SlideAt nw' xs ks lt' st.stay := by
  have hC : ∀ a ∈ [x], ∃ o, (a, o) ∈ nw ∧ o.cls ≠ .type "tuple" := fun a ha => by obtain rfl := List.mem_singleton.mp ha; exact ⟨_, h0, by intro e; cases e⟩
  have hpt : 0 < st.tail.length := List.length_pos_iff.mpr hne
  have h0m : st.tail.getD 0 P0 ∈ st.tail := by rw [List.getD_eq_getElem?_getD, List.getElem?_eq_getElem hpt]; exact List.getElem_mem _
  refine ⟨S.rows.chg N [x] (fun a ha => by obtain rfl := List.mem_singleton.mp ha; exact ⟨_, _, _, h0⟩) hk (by simp [SSt.stay]) fun j xj dj hj => ?_, ⟨_, _, h3, (hvt.drop 1).keepC N hC hk⟩, by simpa [SSt.stay] using S.inR, ?_, fun p hp => S.ok p (List.mem_of_mem_drop hp), fun r hr p hp2 => ?_⟩
  · by_cases e : j = st.at_
    · subst e
      rw [hx] at hj; cases hj
      refine .inr ⟨_, _, h1, ?_⟩
      have e2 : (st.stay.R.getD st.at_ []) = st.row st.at_ ++ [st.tail.getD 0 P0] := by
        show (st.R.set st.at_ _).getD st.at_ [] = _
        exact getD_set_self S.inR
      rw [e2, Array.toList_push]
      exact PairsIn.snoc (hp.keepC N hC hk) h2
    · refine .inl ⟨fun hx2 => S.rows.2.1 j st.at_ _ _ hj hx e (List.mem_singleton.mp hx2), ?_⟩
      show (st.R.set st.at_ _).getD j [] = _
      exact getD_set_ne (Ne.symm e)
  · have h4 := len_set S.inR (st.row st.at_ ++ [st.tail.getD 0 P0])
    have h5 := S.few
    show ((st.R.set st.at_ _).map List.length).sum + (st.tail.drop 1).length ≤ 200
    rw [List.length_append, List.length_singleton] at h4
    rw [List.length_drop]
    have h6 : (st.R.getD st.at_ []).length = (st.row st.at_).length := rfl
    omega
  · rcases List.mem_or_eq_of_mem_set (show r ∈ st.R.set st.at_ _ from hr) with hr | hr
    · exact S.okR r hr p hp2
    · subst hr
      rcases List.mem_append.mp hp2 with h | h
      · exact ok_get S.okR _ p h
      · rw [List.mem_singleton.mp h]; exact S.ok _ h0m
theorem SlideAt.down {h₀ h : Heap} {L : Addr} {nw nw' : Led} {xs : List (Addr × Addr)} {ks : List Int} {lt lt' x dx y dy : Addr} {st : SSt} {its its' ity ity' : Array Value} {n n' m m' nt : Nat} {vt : List Value} {ms : List Str} (S : SlideAt nw xs ks lt st) (N : News h₀ L h nw)
    (hx : xs[st.at_]? = some (x, dx)) (h0 : (x, accO dx its n) ∈ nw) (hy : xs[st.at_ + 1]? = some (y, dy)) (hy0 : (y, accO dy ity m) ∈ nw) (hg : st.gap < (st.row (st.at_ + 1)).length) (hmo : PairOk (ms.getD st.at_ ⟨#[]⟩, st.under)) (hk : Keep [x, y] nw nw') (h1 : (x, accO dx its' n') ∈ nw')
    (hp1 : PairsIn nw' its'.toList (st.row st.at_ ++ [(ms.getD st.at_ ⟨#[]⟩, st.under)] ++ st.tail)) (h2 : (y, accO dy ity' m') ∈ nw') (hp2 : PairsIn nw' ity'.toList ((st.row (st.at_ + 1)).take st.gap)) (h3 : (lt', listOf vt.toArray nt) ∈ nw') (hp3 : PairsIn nw' vt (((st.row (st.at_ + 1)).drop st.gap).drop 1)) : SlideAt nw' xs ks lt' (st.down ms) := by
  have hi1 : st.at_ + 1 < st.R.length := by rw [← S.rows.1]; exact (List.getElem?_eq_some_iff.mp hy).1
  have hxy : x ≠ y := S.rows.2.1 _ _ _ _ hx hy (by omega)
  refine ⟨S.rows.chg N [x, y] (fun a ha => ?_) hk (by simp [SSt.down]) fun j xj dj hj => ?_, ⟨_, _, h3, hp3⟩, by simpa [SSt.down] using hi1, ?_, fun p hp => ok_get S.okR _ p (List.mem_of_mem_drop (List.mem_of_mem_drop hp)), fun r hr p hpr => ?_⟩
  · rcases List.mem_cons.mp ha with rfl | ha
    · exact ⟨_, _, _, h0⟩
    · obtain rfl := List.mem_singleton.mp ha; exact ⟨_, _, _, hy0⟩
  · by_cases e : j = st.at_
    · subst e
      rw [hx] at hj; cases hj
      refine .inr ⟨_, _, h1, ?_⟩
      have e2 : ((st.down ms).R.getD st.at_ []) = st.row st.at_ ++ [(ms.getD st.at_ ⟨#[]⟩, st.under)] ++ st.tail := by
        show ((st.R.set st.at_ _).set (st.at_ + 1) _).getD st.at_ [] = _
        rw [getD_set_ne (by omega)]; exact getD_set_self S.inR
      rw [e2]; exact hp1
    · by_cases e' : j = st.at_ + 1
      · subst e'
        rw [hy] at hj; cases hj
        refine .inr ⟨_, _, h2, ?_⟩
        have e2 : ((st.down ms).R.getD (st.at_ + 1) []) = (st.row (st.at_ + 1)).take st.gap := by
          show ((st.R.set st.at_ _).set (st.at_ + 1) _).getD (st.at_ + 1) [] = _
          exact getD_set_self (by simpa using hi1)
        rw [e2]; exact hp2
      · refine .inl ⟨fun hx2 => ?_, ?_⟩
        · rcases List.mem_cons.mp hx2 with h | h
          · exact S.rows.2.1 j st.at_ _ _ hj hx e h
          · exact S.rows.2.1 j (st.at_ + 1) _ _ hj hy e' (List.mem_singleton.mp h)
        · show ((st.R.set st.at_ _).set (st.at_ + 1) _).getD j [] = _
          rw [getD_set_ne (Ne.symm e')]; exact getD_set_ne (Ne.symm e)
  · have h4 := len_set S.inR (st.row st.at_ ++ [(ms.getD st.at_ ⟨#[]⟩, st.under)] ++ st.tail)
    have h5 := len_set (R := st.R.set st.at_ (st.row st.at_ ++ [(ms.getD st.at_ ⟨#[]⟩, st.under)] ++ st.tail)) (i := st.at_ + 1) (by simpa using hi1) ((st.row (st.at_ + 1)).take st.gap)
    have h6 := S.few
    show (((st.R.set st.at_ _).set (st.at_ + 1) _).map List.length).sum + (((st.row (st.at_ + 1)).drop st.gap).drop 1).length ≤ 200
    rw [getD_set_ne (by omega)] at h5
    rw [List.length_append, List.length_append, List.length_singleton] at h4
    rw [List.length_take] at h5
    rw [List.length_drop, List.length_drop]
    have h7 : (st.R.getD st.at_ []).length = (st.row st.at_).length := rfl
    have h8 : (st.R.getD (st.at_ + 1) []).length = (st.row (st.at_ + 1)).length := rfl
    omega
  · rcases List.mem_or_eq_of_mem_set (show r ∈ (st.R.set st.at_ _).set (st.at_ + 1) _ from hr) with hr | hr
    · rcases List.mem_or_eq_of_mem_set hr with hr | hr
      · exact S.okR r hr p hpr
      · subst hr
        rcases List.mem_append.mp hpr with h | h
        · rcases List.mem_append.mp h with h | h
          · exact ok_get S.okR _ p h
          · rw [List.mem_singleton.mp h]; exact hmo
        · exact S.ok _ h
    · subst hr
      exact ok_get S.okR _ p (List.mem_of_mem_take hpr)
theorem stay_less {st : SSt} (hne : st.tail ≠ []) : st.stay.measure < st.measure := by
  have : 0 < st.tail.length := List.length_pos_iff.mpr hne
  show (st.stay.R.length - st.at_) * 1000 + (st.tail.drop 1).length < (st.R.length - st.at_) * 1000 + st.tail.length
  have e : st.stay.R.length = st.R.length := by simp [SSt.stay]
  rw [e, List.length_drop]; omega
theorem down_less {st : SSt} {ms : List Str} (h1 : st.at_ < st.R.length) (h : (st.R.map List.length).sum ≤ 200) : (st.down ms).measure < st.measure := by
  show ((st.down ms).R.length - (st.at_ + 1)) * 1000 + (((st.row (st.at_ + 1)).drop st.gap).drop 1).length < (st.R.length - st.at_) * 1000 + st.tail.length
  have e : (st.down ms).R.length = st.R.length := by simp [SSt.down]
  have h2 : (st.row (st.at_ + 1)).length ≤ (st.R.map List.length).sum := len_get st.R (st.at_ + 1)
  rw [e, List.length_drop, List.length_drop]; omega
theorem slideN_stop {ms : List Str} {st : SSt} (h1 : st.tail = []) (h2 : st.under = eS) : ∀ f, slideN ms f st = (st.at_, st.R)
  | 0 => rfl
  | f + 1 => if_pos ⟨h1, h2⟩
theorem slideN_stay {ms : List Str} {st : SSt} {f : Nat} (h0 : 0 < f) (h1 : st.tail ≠ []) (h2 : st.under = eS ∨ (st.tail.getD 0 P0).2.cps.toList < st.under.cps.toList) : slideN ms (f - 1) st.stay = slideN ms f st := by
  obtain ⟨g, rfl⟩ : ∃ g, f = g + 1 := ⟨f - 1, by omega⟩
  rw [Nat.add_sub_cancel]
  show _ = if _ then _ else if _ then _ else _
  rw [if_neg (fun h => h1 h.1), if_pos (h2.imp id fun h => ⟨h1, h⟩)]
theorem slideN_down {ms : List Str} {st : SSt} {f : Nat} (h0 : 0 < f) (h1 : st.under ≠ eS) (h2 : st.tail = [] ∨ ¬ (st.tail.getD 0 P0).2.cps.toList < st.under.cps.toList) : slideN ms (f - 1) (st.down ms) = slideN ms f st := by
  obtain ⟨g, rfl⟩ : ∃ g, f = g + 1 := ⟨f - 1, by omega⟩
  rw [Nat.add_sub_cancel]
  show _ = if _ then _ else if _ then _ else _
  rw [if_neg (fun h => h1 h.2), if_neg (fun h => h.elim h1 fun h => h2.elim h.1 fun h3 => h3 h.2)]
theorem WStep.intro {h₀ : Heap} {L : Addr} {s : Shared} {J : Nat → (Str → Option Value) → Led → Prop} {Q : Flow → Shared → Prop} {n n' : Nat} {h' : Heap} {tk : Nat} {gs : Array GenState} {m₂ : Str → Option Value} {news₂ : Led}
    (F : Fr h₀ L h' m₂) (N : News h₀ L h' news₂) (hn : n' < n) (hj : J n' m₂ news₂) (hg : Bare s.gens gs) : WStep h₀ L s J Q n .next { s with heap := h', toks := tk, gens := gs } := ⟨h', tk, gs, m₂, news₂, n', rfl, F, N, hn, hj, hg⟩
end
theorem size_fit {a b i n : Nat} (h : n = a + 1 + min i b) (h1 : a ≤ 200) (h2 : b ≤ 200) : n ≤ 1000 := by omega
theorem nat63 {n : Nat} (h : n ≤ 1000) : (n : Int) < 2 ^ 63 := by omega
/-! a turn cut in three: what is walked once stands once -/
def CutP (M : Heap → Nat → Array GenState → Prop) (d : Drawn) (o : OsState) : Flow → Shared → Prop
  | .next, s => M s.heap s.toks s.gens ∧ s.drawn = d ∧ s.os = o
  | _, _ => False
section
variable {M : Model} {A : Around} {E : Value → Shared → Prop} {env : Env} {h : Heap} {gs : Array GenState} {d : Drawn} {tk : Nat} {o : OsState} {a0 a1 : Stmt} {rest : List Stmt} {Q : Flow → Shared → Prop}
theorem execs_cut2 (Mid : Heap → Nat → Array GenState → Prop)
    (h1 : wpAny M A (exec a0 env) (fun f s' => match f with | .next => wpAny M A (exec a1 env) (CutP Mid d o) E s' | _ => False) E ⟨h, gs, d, tk, o⟩)
    (h2 : ∀ h' tk' gs', Mid h' tk' gs' → wpAny M A (execs rest env) Q E ⟨h', gs', d, tk', o⟩) : wpAny M A (execs (a0 :: a1 :: rest) env) Q E ⟨h, gs, d, tk, o⟩ := by
  refine wpAny_execs_cons (wpAny_mono h1 (fun f s' h' => ?_) fun _ _ h' => h')
  cases f with
  | next =>
    refine wpAny_execs_cons (wpAny_mono h' (fun f s' h' => ?_) fun _ _ h' => h')
    cases f with
    | next => obtain ⟨a, b, c⟩ := h'; cases s'; subst b c; exact h2 _ _ _ a
    | _ => exact h'.elim
  | _ => exact h'.elim
theorem execs_cut1 (Mid : Heap → Nat → Array GenState → Prop)
    (h1 : wpAny M A (exec a0 env) (fun f s' => match f with | .next => CutP Mid d o .next s' | f => Q f s') E ⟨h, gs, d, tk, o⟩)
    (h2 : ∀ h' tk' gs', Mid h' tk' gs' → wpAny M A (execs rest env) Q E ⟨h', gs', d, tk', o⟩) : wpAny M A (execs (a0 :: rest) env) Q E ⟨h, gs, d, tk, o⟩ := by
  refine wpAny_execs_cons (wpAny_mono h1 (fun f s' h' => ?_) fun _ _ h' => h')
  cases f with
  | next => obtain ⟨a, b, c⟩ := h'; cases s'; subst b c; exact h2 _ _ _ a
  | _ => exact h'
theorem if_cut {test : PySem.Expr} {b1 b2 : List Stmt} {pos : Pos} (M1 M2 : Heap → Nat → Array GenState → Prop)
    (hc : wpAny M A (isTrue test env (eval test env)) (fun b s' => if b = true then CutP M1 d o .next s' else CutP M2 d o .next s') E ⟨h, gs, d, tk, o⟩)
    (h1 : ∀ h' tk' gs', M1 h' tk' gs' → wpAny M A (execs b1 env) Q E ⟨h', gs', d, tk', o⟩) (h2 : ∀ h' tk' gs', M2 h' tk' gs' → wpAny M A (execs b2 env) Q E ⟨h', gs', d, tk', o⟩) :
    wpAny M A (execs [.If test b1 b2 pos] env) Q E ⟨h, gs, d, tk, o⟩ := by
  refine wpAny_execs_cons (wpAny_If (wpAny_mono hc (fun b s' h' => ?_) fun _ _ h' => h'))
  have fin : ∀ {b : List Stmt} {s : Shared}, wpAny M A (execs b env) Q E s → wpAny M A (execs b env) (fun f s' => match f with | .next => wpAny M A (execs [] env) Q E s' | f => Q f s') E s :=
    fun hb => wpAny_mono hb (fun f s h' => by cases f <;> first | exact wpAny_execs_nil h' | exact h') fun _ _ h' => h'
  cases b with
  | true => simp only [if_true] at h' ⊢; obtain ⟨a, b, c⟩ := h'; cases s'; subst b c; exact fin (h1 _ _ _ a)
  | false => simp only [Bool.false_eq_true, if_false] at h' ⊢; obtain ⟨a, b, c⟩ := h'; cases s'; subst b c; exact fin (h2 _ _ _ a)
end
inductive SMid (h₀ : Heap) (L : Addr) (gs : Array GenState) (nw : Led) (lr lm lt : Addr) (st : SSt) (U C : Prop) (V : (Str → Option Value) → Prop) (h' : Heap) (_ : Nat) (gs' : Array GenState) : Prop
  | mk (m' : Str → Option Value) (_ : Bare gs gs') (_ : Fr h₀ L h' m') (_ : News h₀ L h' nw) (_ : m' (Str.ofString "rows") = some (.ref lr)) (_ : m' (Str.ofString "marks") = some (.ref lm)) (_ : ∃ t, m' (Str.ofString "at") = some (.int st.at_ t)) (_ : ∃ t, m' (Str.ofString "gap") = some (.int st.gap t)) (_ : m' (Str.ofString "tail") = some (.ref lt)) (_ : V m') (_ : U) (_ : C)
/-- what holds between the turns -/
inductive SlideJ (ms : List Str) (R : List (List (Str × Str))) (lr lm : Addr) (xs : List (Addr × Addr)) (ks : List Int) (news : Led) (k : Nat) (m : Str → Option Value) (nw : Led) : Prop
  | mk (st : SSt) (f : Nat) (lt : Addr) (_ : st.measure ≤ k) (_ : k ≤ f) (_ : slideN ms f st = slideF ms R) (_ : m (Str.ofString "rows") = some (.ref lr)) (_ : m (Str.ofString "marks") = some (.ref lm)) (_ : ∃ t, m (Str.ofString "at") = some (.int st.at_ t)) (_ : ∃ t, m (Str.ofString "gap") = some (.int st.gap t)) (_ : m (Str.ofString "tail") = some (.ref lt))
    (_ : SlideAt nw xs ks lt st) (_ : st.R.length = R.length) (_ : Keep (xs.map (·.1)) news nw)
def SStay (st : SSt) : Prop := st.under = eS ∨ (st.tail.getD 0 P0).2.cps.toList < st.under.cps.toList
def SDown (st : SSt) : Prop := st.tail = [] ∨ ¬ (st.tail.getD 0 P0).2.cps.toList < st.under.cps.toList
def SUnder (st : SSt) (m' : Str → Option Value) : Prop := ∃ t, m' (Str.ofString "under") = some (.str st.under t)
theorem SMid.intro {h₀ h' : Heap} {L : Addr} {gs gs' : Array GenState} {nw : Led} {lr lm lt : Addr} {st : SSt} {U C : Prop} {V : (Str → Option Value) → Prop} {tk : Nat} {d : Drawn} {o : OsState} {m' : Str → Option Value} {ta tg : Tok}
    (F : Fr h₀ L h' m') (N : News h₀ L h' nw) (e1 : m' (Str.ofString "rows") = some (.ref lr)) (e2 : m' (Str.ofString "marks") = some (.ref lm)) (e3 : m' (Str.ofString "at") = some (.int st.at_ ta)) (e4 : m' (Str.ofString "gap") = some (.int st.gap tg)) (e5 : m' (Str.ofString "tail") = some (.ref lt)) (e6 : V m') (u : U) (c : C) (g : Bare gs gs') :
    CutP (SMid h₀ L gs nw lr lm lt st U C V) d o .next ⟨h', gs', d, tk, o⟩ := ⟨⟨m', g, F, N, e1, e2, ⟨_, e3⟩, ⟨_, e4⟩, e5, e6, u, c⟩, rfl, rfl⟩

set_option maxHeartbeats 0 in
theorem slide_spec {w : World} {news : Led} {lr lm : Addr} {xs : List (Addr × Addr)} {R : List (List (Str × Str))} {ks : List Int} {vm : List Value} {ms : List Str} {n1 n2 : Nat}
   (hr : (lr, listOf (xs.map fun p => Value.ref p.1).toArray n1) ∈ news) (hm : (lm, listOf vm.toArray n2) ∈ news) (hms : StrsAre vm ms) (hR : RowsIn news xs R ks) (hne : 0 < R.length) (hln : (R.map List.length).sum ≤ 200) (hlR : R.length ≤ 100) (hml : ms.length = R.length) (hok : ∀ r ∈ R, ∀ p ∈ r, PairOk p) (hmo : ∀ y ∈ ms, PyData.strOk y = true) :
   Spec 8 w 163 [.ref lr, .ref lm] news (fun v news' => (∃ t, v = .int (slideF ms R).1 t) ∧ RowsIn news' xs (slideF ms R).2 ks ∧ Keep (xs.map (·.1)) news news') := by
  intro p loose mean mg mb dp un gd cn cs' L a ccd cl outer A₀ base h₀ m s Q E B F X N T X24 hk hdp hun ret
  refine wpAny_call ?_
  k_dflt (refine' code_def ?k1 ?k2 ?k3 ?k4 ?k5 ?kA ?kF ?kK ?k6 ?k7 ?k8 ?k9 ?kB ?_ ?c2 ?c3 ?c4 ?c5; (case kA => exact rfl); (case kF => exact rfl); (case kK => first | assumption | exact rfl); (case k1 => k_asm); (case k2 => k_asm); (case k3 => k_asm); (case k4 => k_asm); (case k5 => k_asm); (case k6 => k_is); (case k7 => k_is); (case k8 => k_room); (case k9 => first | exact BindsTo.of_eq rfl | exact binds_K (by k_in) rfl (by k_is) rfl rfl rfl); (case c5 => decide); (case kB => exact locs rfl); (case c2 => exact rfl); (case c3 => exact rfl); (case c4 => exact rfl); k_whole)
  intro g1 L1 h1 FG F1 N1 B1 X1 T1
  (try dsimp only)
  (try k_lift B1)
  obtain ⟨m1, F2, hm⟩ : ∃ m1, Fr g1 L1 h1 m1 ∧ (m1 (Str.ofString "rows") = some (.ref lr) ∧ m1 (Str.ofString "marks") = some (.ref lm) ∧ True) := ⟨_, F1, rfl, rfl, trivial⟩
  obtain ⟨hm1, hm2, _⟩ := hm
  clear F1
  (try k_fold)
  obtain ⟨x0, d0, hx0⟩ : ∃ x0 d0, xs[0]? = some (x0, d0) := by
    have h := hR.1
    have h' : 0 < xs.length := by omega
    exact ⟨xs[0].1, xs[0].2, by rw [List.getElem?_eq_getElem h']⟩
  obtain ⟨its, n, hh, tk, t, hm0, hd0, hp0⟩ := hR.2.2 0 x0 d0 hx0
  have hI : ItemAt (xs.map fun p => Value.ref p.1).toArray 0 (.ref x0) := ⟨by omega, by omega, by simp [hx0]⟩
  have hl0 : its.size ≤ 200 := by
    have h1 : its.size = (R.getD 0 []).length := by simpa using hp0.1
    rw [h1]; exact Nat.le_trans (len_get R 0) hln
  have hsz : its.size ≤ 1000 := by omega
  have hz : its.toList.length ≤ 100000 := by simp; omega
  have hz1 : (0 : Int) ≤ 1 := by omega
  k_steps
  rename_i h6 h5 h9 tk9 gs9 hG9 l9 n9 ll9 ne9 D h8 lD h7 F7 N7
  unfold Hold
  have hRl : xs.length = R.length := hR.1
  refine While_G (n₀ := (slideStart R).measure) (SlideJ ms R lr lm xs ks news) F7 N7 ?_ ?_
  · have hd0l : ((R.getD 0 []).drop 1).length ≤ 200 := by
      have h1 : its.size = (R.getD 0 []).length := by simpa using hp0.1
      rw [List.length_drop]; omega
    have hx0m : (x0, accO d0 #[] n9) ∈ updL x0 (accO d0 #[] n9) news := mem_updL_self hm0
    have hkeep : ∀ p ∈ news, p.1 ≠ x0 → p ∈ (D, listOf (List.drop (Int.toNat 1) its.toList).toArray 0) :: (l9, listOf its.toList.toArray 0) :: updL x0 (accO d0 #[] n9) news := fun p hp hx => List.mem_cons_of_mem _ (List.mem_cons_of_mem _ (mem_updL_ne hp hx))
    have hxx : x0 ∈ xs.map (·.1) := List.mem_map.mpr ⟨(x0, d0), List.mem_of_getElem? hx0, rfl⟩
    refine ⟨slideStart R, R.length * 1000 + 1000, D, Nat.le_refl _, ?_, rfl, hm1, hm2, ⟨_, rfl⟩, ⟨_, rfl⟩, rfl, ⟨?_, ?_, ?_, ?_, ?_, ?_⟩, by simp [slideStart], fun p hp hn => hkeep p hp fun e => hn (e ▸ hxx)⟩
    · unfold SSt.measure slideStart
      simp only [List.length_set, Nat.sub_zero]
      omega
    · exact hR.set N hx0 hm0 hkeep (List.mem_cons_of_mem _ (List.mem_cons_of_mem _ hx0m)) .nil
    · exact ⟨_, _, List.mem_cons_self .., (hp0.drop 1).keepN N hm0 (by intro a b t u e; cases e) hkeep⟩
    · simpa [slideStart] using hne
    · have h4 := len_set hne []
      show ((R.set 0 []).map List.length).sum + ((R.getD 0 []).drop 1).length ≤ 200
      rw [List.length_drop]
      simp only [List.length_nil] at h4
      omega
    · exact fun p hp => ok_get hok 0 p (List.mem_of_mem_drop hp)
    · intro r hr p hp
      rcases List.mem_or_eq_of_mem_set hr with h | h
      · exact hok r h p hp
      · rw [h] at hp; cases hp
  · rintro k m₁ nw h₁ tk₁ gs₁ hGb F8 N8 ⟨st, f, lt, hk0, hf, hsl, hnr, hnm, ⟨ta, hna⟩, ⟨tg, hng⟩, hnt, S, hRR, hK⟩
    clear F7 N7 hm0 hd0 hp0 hI hx0 hl0 hsz hz hz1
    have hxcls : ∀ y, y ∈ xs.map (·.1) → ∃ oy, (y, oy) ∈ news ∧ oy.cls = .ref 114 := by
      intro y hy
      obtain ⟨q, hq, rfl⟩ := List.mem_map.mp hy
      obtain ⟨i, hi, he⟩ := List.mem_iff_getElem.mp hq
      obtain ⟨a1, a2, _, _, _, a3, _⟩ := hR.2.2 i q.1 q.2 (by rw [List.getElem?_eq_getElem hi, he])
      exact ⟨_, a3, rfl⟩
    have hmr : (lr, listOf (xs.map fun p => Value.ref p.1).toArray n1) ∈ nw := hK.mem hr fun hx => by
      obtain ⟨oy, h1, h2⟩ := hxcls _ hx
      exact led_ne N h1 hr (by rw [h2]; intro e; cases e) rfl
    have hmm : (lm, listOf vm.toArray n2) ∈ nw := hK.mem hm fun hx => by
      obtain ⟨oy, h1, h2⟩ := hxcls _ hx
      exact led_ne N h1 hm (by rw [h2]; intro e; cases e) rfl
    clear hxcls
    have hL9 : (xs.map fun p => Value.ref p.1).length = st.R.length := by rw [List.length_map]; exact S.rows.1
    have hxs : xs.length = st.R.length := S.rows.1
    have hlR1 : st.R.length ≤ 100 := by omega
    have hxl : (xs.map fun p => Value.ref p.1).length ≤ 100000 := by omega
    have hml1 : ms.length = st.R.length := by omega
    have hz1 : (0 : Int) ≤ 1 := by omega
    have hg0 : (0 : Int) ≤ st.gap := Int.natCast_nonneg _
    have hfew := S.few
    have hok9 := S.ok
    have hrow : ∀ i, (st.row i).length ≤ 200 := fun i => Nat.le_trans (len_get st.R i) (Nat.le_trans (Nat.le_add_right _ _) hfew)
    clear hne hln hlR hml hok hRl
    iterate 4 (first | walk1 | (dsimp only; walk1))
    refine execs_cut2 (SMid g1 L1 gs₁ nw lr lm lt st True True (SUnder st)) ?_ ?_
    · have stA : StopA := trivial
      k_steps
      · rename_i _ _ _ hlt1
        unfold Hold
        clear zs
        have stB : StopB := trivial
        have hc1 : st.at_ + 1 < st.R.length := by rw [hL9] at hlt1; omega
        obtain ⟨y, dy, ity, ny, hhy, tky, ty, hy, hym, hdy, hpy⟩ := S.rows.get hc1
        have hIy : ItemAt (xs.map fun p => Value.ref p.1).toArray ((st.at_ : Int) + 1) (.ref y) := ItemAt.of (st.at_ + 1) (by omega) (by simp; omega) (by simp [hy])
        have hly : ity.size = (st.row (st.at_ + 1)).length := by have := hpy.1; rwa [Array.length_toList] at this
        have hysz : ity.size ≤ 1000 := by rw [hly]; exact Nat.le_trans (hrow _) (by decide)
        clear hlt1
        k_steps
        · rename_i hlt2
          unfold Hold
          clear zs
          have hc2 : st.gap < (st.row (st.at_ + 1)).length := by rw [hly] at hlt2; omega
          obtain ⟨q, tq, uq, hq1, hq2⟩ := hpy.get hc2
          have hJ : ity[(st.gap : Int).toNat]? = some (Value.ref q) := by simpa using hq1
          have hunder : st.under = ((st.row (st.at_ + 1)).getD st.gap P0).2 := if_pos ⟨hc1, hc2⟩
          k_steps
          exact SMid.intro (by k_asm) (by k_asm) (by exact hnr) (by exact hnm) (by exact hna) (by exact hng) (by exact hnt) ⟨uq, by rw [hunder]; exact rfl⟩ trivial trivial (by repeat (first | exact Bare.refl _ | refine Bare.trans ?_ (by assumption)))
        · rename_i hlt2
          have hunder : st.under = eS := if_neg fun h => hlt2 (by rw [hly]; omega)
          exact SMid.intro (by k_asm) (by k_asm) (by exact hnr) (by exact hnm) (by exact hna) (by exact hng) (by exact hnt) ⟨_, by rw [hunder]; exact rfl⟩ trivial trivial (by repeat (first | exact Bare.refl _ | refine Bare.trans ?_ (by assumption)))
      · rename_i _ _ _ hlt1
        have hunder : st.under = eS := if_neg fun h => hlt1 (by rw [hL9]; omega)
        exact SMid.intro (by k_asm) (by k_asm) (by exact hnr) (by exact hnm) (by exact hna) (by exact hng) (by exact hnt) ⟨_, by rw [hunder]; exact rfl⟩ trivial trivial (by repeat (first | exact Bare.refl _ | refine Bare.trans ?_ (by assumption)))
    clear F8 N8 hnr hnm hna hng hnt
    rintro h₂ tk₂ gs₂ ⟨m₂, hG2, F9, N9, hnr, hnm, ⟨ta2, hna⟩, ⟨tg2, hng⟩, hnt, ⟨tu, hnu⟩, _, _⟩
    obtain ⟨vt, nt, htm, htp⟩ := S.tail
    have hvl : vt.length = st.tail.length := htp.1
    have hvl2 : vt.length ≤ 100000 := by omega
    have htc : (vt = [] ∧ st.tail = []) ∨ (vt ≠ [] ∧ st.tail ≠ [] ∧ ∃ q0 t0 u0, ItemAt vt.toArray 0 (.ref q0) ∧ (q0, pairO (st.tail.getD 0 P0).1 (st.tail.getD 0 P0).2 t0 u0) ∈ nw) := by
      cases e : st.tail with
      | nil => exact .inl ⟨List.length_eq_zero_iff.mp (by rw [hvl, e]; rfl), rfl⟩
      | cons a r =>
        refine .inr ⟨fun h => by rw [h, e] at hvl; simp at hvl, by simp, ?_⟩
        rw [e] at htp
        obtain ⟨q, t, u, h1, h2⟩ := htp.get (i := 0) (by simp)
        exact ⟨q, t, u, ItemAt.of 0 rfl (by simp; omega) (by simpa using h1), h2⟩
    refine execs_cut1 (SMid g1 L1 gs₂ nw lr lm lt st True (¬(st.tail = [] ∧ st.under = eS)) (SUnder st)) ?_ ?_
    · rcases htc with ⟨hv0, ht0⟩ | ⟨hv0, ht0, -⟩
      · k_steps
        · have hu0 : st.under = eS := eq_of_beq ‹_›
          dsimp only [WStep]
          dsimp only [qk]
          k_steps
          refine ret _ _ _ _ _ (by k_asm) (by k_asm) ⟨⟨ta2, ?_⟩, ?_, ?_⟩
          · rw [← hsl, slideN_stop ht0 hu0]
          · rw [← hsl, slideN_stop ht0 hu0]
            exact S.rows.sub fun p hp => List.mem_cons_of_mem _ hp
          · exact fun p hp hn => List.mem_cons_of_mem _ (hK p hp hn)
        · have hu0 : st.under ≠ eS := ne_of_beq_false ‹_›
          dsimp only
          exact SMid.intro (by k_asm) (by exact cb_drop (by k_asm) fun p hp => List.mem_cons_of_mem _ hp) (by exact hnr) (by exact hnm) (by exact hna) (by exact hng) (by exact hnt) ⟨_, by exact hnu⟩ trivial (fun h => hu0 h.2) (by repeat (first | exact Bare.refl _ | refine Bare.trans ?_ (by assumption)))
      · k_steps
        dsimp only
        exact SMid.intro (by k_asm) (by exact cb_drop (by k_asm) fun p hp => List.mem_cons_of_mem _ hp) (by exact hnr) (by exact hnm) (by exact hna) (by exact hng) (by exact hnt) ⟨_, by exact hnu⟩ trivial (fun h => ht0 h.1) (by repeat (first | exact Bare.refl _ | refine Bare.trans ?_ (by assumption)))
    clear F9 N9 hnr hnm hna hng hnt hnu
    rintro h₃ tk₃ gs₃ ⟨m₃, hG3, F9, N9, hnr, hnm, ⟨ta3, hna⟩, ⟨tg3, hng⟩, hnt, ⟨tu3, hnu⟩, _, hC⟩
    refine if_cut (SMid g1 L1 gs₃ nw lr lm lt st (st.tail ≠ []) (SStay st) (SUnder st)) (SMid g1 L1 gs₃ nw lr lm lt st (st.under ≠ eS) (SDown st) (SUnder st)) ?_ ?_ ?_
    · rcases htc with ⟨hv0, ht0⟩ | ⟨hv0, ht0, q0, t0, u0, hI0, hq0⟩
      · have hu0 : st.under ≠ eS := fun h => hC ⟨ht0, h⟩
        k_steps
        · exact absurd (eq_of_beq ‹(st.under == eS) = true›) hu0
        · exact SMid.intro (by k_asm) (by first | k_asm | exact cb_drop (by k_asm) fun p hp => List.mem_cons_of_mem _ hp | exact cb_drop (by k_asm) fun p hp => List.mem_cons_of_mem _ (List.mem_cons_of_mem _ hp)) (by exact hnr) (by exact hnm) (by exact hna) (by exact hng) (by exact hnt) ⟨_, by exact hnu⟩ hu0 (.inl ht0) (by repeat (first | exact Bare.refl _ | refine Bare.trans ?_ (by assumption)))
      · k_steps
        · exact SMid.intro (by k_asm) (by first | k_asm | exact cb_drop (by k_asm) fun p hp => List.mem_cons_of_mem _ hp | exact cb_drop (by k_asm) fun p hp => List.mem_cons_of_mem _ (List.mem_cons_of_mem _ hp)) (by exact hnr) (by exact hnm) (by exact hna) (by exact hng) (by exact hnt) ⟨_, by exact hnu⟩ ht0 (.inl (eq_of_beq ‹(st.under == eS) = true›)) (by repeat (first | exact Bare.refl _ | refine Bare.trans ?_ (by assumption)))
        · exact SMid.intro (by k_asm) (by first | k_asm | exact cb_drop (by k_asm) fun p hp => List.mem_cons_of_mem _ hp | exact cb_drop (by k_asm) fun p hp => List.mem_cons_of_mem _ (List.mem_cons_of_mem _ hp)) (by exact hnr) (by exact hnm) (by exact hna) (by exact hng) (by exact hnt) ⟨_, by exact hnu⟩ ht0 (.inr (by assumption)) (by repeat (first | exact Bare.refl _ | refine Bare.trans ?_ (by assumption)))
        · exact SMid.intro (by k_asm) (by first | k_asm | exact cb_drop (by k_asm) fun p hp => List.mem_cons_of_mem _ hp | exact cb_drop (by k_asm) fun p hp => List.mem_cons_of_mem _ (List.mem_cons_of_mem _ hp)) (by exact hnr) (by exact hnm) (by exact hna) (by exact hng) (by exact hnt) ⟨_, by exact hnu⟩ (ne_of_beq_false ‹(st.under == eS) = false›) (.inr (by assumption)) (by repeat (first | exact Bare.refl _ | refine Bare.trans ?_ (by assumption)))
    · clear F9 N9 hnr hnm hna hng hnt hnu
      rintro h₄ tk₄ gs₄ ⟨m₄, hG4, F9, N9, hnr, hnm, ⟨ta4, hna⟩, ⟨tg4, hng⟩, hnt, -, ht0, hC4⟩
      rcases htc with ⟨_, h⟩ | ⟨hv0, -, q0, t0, u0, hI0, hq0⟩
      · exact absurd h ht0
      obtain ⟨x, dx, its, nx, hhx, tkx, tx, hx, hxm, hdm, hp⟩ := S.rows.get S.inR
      have hat := S.inR
      have hI : ItemAt (xs.map fun p => Value.ref p.1).toArray (st.at_ : Int) (.ref x) := ItemAt.of st.at_ rfl (by simp; omega) (by simp [hx])
      have hrl : its.size = (st.row st.at_).length := by have := hp.1; rwa [Array.length_toList] at this
      have hisz : its.size ≤ 1000 := by rw [hrl]; exact Nat.le_trans (hrow _) (by decide)
      have nlx : lt ≠ x := led_ne N9 htm hxm (by intro e; cases e)
      have hxk : x ∈ xs.map (·.1) := List.mem_map.mpr ⟨(x, dx), List.mem_of_getElem? hx, rfl⟩
      have hqx : ∀ (q : Addr) (o : Obj), (q, o) ∈ nw → o.cls ≠ .ref 114 → q ≠ x := fun q o h1 h2 => led_ne N9 h1 hxm h2
      have hstay : ∀ (nw' : Led) (lt' q : Addr) (n' nt : Nat) (t u : Tok), Keep [x] nw nw' → (x, accO dx (its.push (.ref q)) n') ∈ nw' → (q, pairO (st.tail.getD 0 P0).1 (st.tail.getD 0 P0).2 t u) ∈ nw' → (lt', listOf (vt.drop 1).toArray nt) ∈ nw' → SlideAt nw' xs ks lt' st.stay :=
        fun nw' lt' q n' nt t u hk h1 h2 h3 => S.stay N9 hx hxm hp htp ht0 hk h1 h2 h3
      k_steps
      have hsm := stay_less ht0
      have hkp : 0 < k := Nat.lt_of_lt_of_le (Nat.zero_lt_of_lt hsm) hk0
      refine WStep.intro (n' := k - 1) (by k_asm) (by k_asm) (Nat.sub_lt hkp Nat.one_pos) ⟨st.stay, f - 1, _, Nat.le_sub_one_of_lt (Nat.lt_of_lt_of_le hsm hk0), Nat.sub_le_sub_right hf 1, (slideN_stay (Nat.lt_of_lt_of_le hkp hf) ht0 hC4).trans hsl, by exact hnr, by exact hnm, ⟨_, by exact hna⟩, ⟨_, rfl⟩, rfl, ?_, by simpa [SSt.stay] using hRR, ?_⟩ (by repeat (first | exact Bare.refl _ | refine Bare.trans ?_ (by assumption)))
      · exact hstay _ _ _ _ _ _ _ (by k_updF) (by k_mem) (by k_mem) (List.mem_cons_self ..)
      · refine hK.trans (Keep.more (xs := [x]) (by k_updF) fun a ha => ?_) fun _ h => h
        obtain rfl := List.mem_singleton.mp ha
        exact hxk
    · clear F9 N9 hnr hnm hna hng hnt hnu htc
      rintro h₄ tk₄ gs₄ ⟨m₄, hG4, F9, N9, hnr, hnm, ⟨ta4, hna⟩, ⟨tg4, hng⟩, hnt, ⟨tu4, hnu⟩, hu0, hC4⟩
      obtain ⟨hc1, hc2⟩ : st.at_ + 1 < st.R.length ∧ st.gap < (st.row (st.at_ + 1)).length := Classical.byContradiction fun h => hu0 (if_neg h)
      obtain ⟨x, dx, its, nx, hhx, tkx, tx, hx, hxm, hdm, hp⟩ := S.rows.get S.inR
      obtain ⟨y, dy, ity, ny, hhy, tky, ty, hy, hym, hdy, hpy⟩ := S.rows.get hc1
      have hat := S.inR
      have hI : ItemAt (xs.map fun p => Value.ref p.1).toArray (st.at_ : Int) (.ref x) := ItemAt.of st.at_ rfl (by simp; omega) (by simp [hx])
      have hIy : ItemAt (xs.map fun p => Value.ref p.1).toArray ((st.at_ : Int) + 1) (.ref y) := ItemAt.of (st.at_ + 1) (by omega) (by simp; omega) (by simp [hy])
      have hrl : its.size = (st.row st.at_).length := by have := hp.1; rwa [Array.length_toList] at this
      have hly : ity.size = (st.row (st.at_ + 1)).length := by have := hpy.1; rwa [Array.length_toList] at this
      have hisz2 : its.size ≤ 200 := by rw [hrl]; exact hrow _
      have hisz : its.size ≤ 1000 := by omega
      have hysz : ity.size ≤ 1000 := by rw [hly]; exact Nat.le_trans (hrow _) (by decide)
      have hlt2 : (st.gap : Int) < (ity.size : Int) := by rw [hly]; omega
      have hz9 : (ity.toList.drop (st.gap : Int).toNat).length ≤ 100000 := by simp; omega
      have hvl3 : st.tail.length ≤ 200 := Nat.le_trans (Nat.le_add_left _ _) hfew
      have hg63 : (st.gap : Int) < 2 ^ 63 := nat63 (Nat.le_trans (Nat.le_of_lt hc2) (Nat.le_trans (hrow _) (by decide)))
      have ha63 : (st.at_ : Int) < 2 ^ 63 := nat63 (Nat.le_trans (Nat.le_of_lt hat) (Nat.le_trans hlR1 (by decide)))
      have hz8 : ity.size ≤ 100000 + st.gap := Nat.le_trans hysz (Nat.le_trans (by decide) (Nat.le_add_right 100000 _))
      have hxy : x ≠ y := S.rows.2.1 _ _ _ _ hx hy (by omega)
      have nlx : lt ≠ x := led_ne N9 htm hxm (by intro e; cases e)
      have nrx : lr ≠ x := led_ne N9 hmr hxm (by intro e; cases e)
      have nmx : lm ≠ x := led_ne N9 hmm hxm (by intro e; cases e)
      have ndx : dx ≠ x := led_ne N9 hdm hxm (by intro e; cases e)
      have nly : lt ≠ y := led_ne N9 htm hym (by intro e; cases e)
      have nry : lr ≠ y := led_ne N9 hmr hym (by intro e; cases e)
      have nmy : lm ≠ y := led_ne N9 hmm hym (by intro e; cases e)
      have nxd : dx ≠ y := led_ne N9 hdm hym (by intro e; cases e)
      have nyd : dy ≠ y := led_ne N9 hdy hym (by intro e; cases e)
      have nyx : dy ≠ x := led_ne N9 hdy hxm (by intro e; cases e)
      have hxk : x ∈ xs.map (·.1) := List.mem_map.mpr ⟨(x, dx), List.mem_of_getElem? hx, rfl⟩
      have hyk : y ∈ xs.map (·.1) := List.mem_map.mpr ⟨(y, dy), List.mem_of_getElem? hy, rfl⟩
      have hqx : ∀ (q : Addr) (o : Obj), (q, o) ∈ nw → o.cls ≠ .ref 114 → q ≠ x := fun q o h1 h2 => led_ne N9 h1 hxm h2
      have hkc : ∀ (vs : List Value) (ps : List (Str × Str)), PairsIn nw vs ps → ∀ nw', Keep [x, y] nw nw' → PairsIn nw' vs ps := fun vs ps h nw' hk => h.keepC N9 (fun a ha => by
        rcases List.mem_cons.mp ha with rfl | ha
        · exact ⟨_, hxm, by intro e; cases e⟩
        · obtain rfl := List.mem_singleton.mp ha; exact ⟨_, hym, by intro e; cases e⟩) hk
      have hdown : ∀ (hg : st.gap < (st.row (st.at_ + 1)).length) (nw' : Led) (lt' : Addr) (its' ity' : Array Value) (n' m' nt : Nat) (vt' : List Value), Keep [x, y] nw nw' → (x, accO dx its' n') ∈ nw' → PairsIn nw' its'.toList (st.row st.at_ ++ [(ms.getD st.at_ ⟨#[]⟩, st.under)] ++ st.tail) → (y, accO dy ity' m') ∈ nw' → PairsIn nw' ity'.toList ((st.row (st.at_ + 1)).take st.gap) →
          (lt', listOf vt'.toArray nt) ∈ nw' → PairsIn nw' vt' (((st.row (st.at_ + 1)).drop st.gap).drop 1) → SlideAt nw' xs ks lt' (st.down ms) := fun hg nw' lt' its' ity' n' m' nt vt' hk h1 h2 h3 h4 h5 h6 => by
        refine S.down N9 hx hxm hy hym hg ⟨?_, ?_⟩ hk h1 h2 h3 h4 h5 h6
        · have hi9 : st.at_ < ms.length := by omega
          have e9 : ms.getD st.at_ ⟨#[]⟩ = ms[st.at_] := by rw [List.getD_eq_getElem?_getD, List.getElem?_eq_getElem hi9]; rfl
          rw [e9]; exact hmo _ (List.getElem_mem _)
        · have e8 : st.under = ((st.row (st.at_ + 1)).getD st.gap P0).2 := if_pos ⟨hc1, hg⟩
          have e7 : (st.row (st.at_ + 1)).getD st.gap P0 = (st.row (st.at_ + 1))[st.gap] := by rw [List.getD_eq_getElem?_getD, List.getElem?_eq_getElem hg]; rfl
          show PyData.strOk st.under = true
          rw [e8, e7]
          exact (ok_get S.okR (st.at_ + 1) _ (List.getElem_mem hg)).2
      have hid : ∀ nw', Keep [x, y] nw nw' → Hold (Keep [x, y] nw nw') := fun _ h => h
      k_steps
      unfold Hold
      refine for_list rfl (by k_asm) (by k_asm) (by k_mem) [x] (by simpa using nlx) (fun i m nw => m (Str.ofString "rows") = some (.ref lr) ∧ m (Str.ofString "marks") = some (.ref lm) ∧ m (Str.ofString "at") = some (.int st.at_ ta4) ∧ m (Str.ofString "gap") = some (.int st.gap tg4) ∧ ∃ itsI nI, (x, accO dx itsI nI) ∈ nw ∧ PairsIn nw itsI.toList (st.row st.at_ ++ [(ms.getD st.at_ ⟨#[]⟩, st.under)] ++ st.tail.take i)) ⟨by exact hnr, by exact hnm, by exact hna, by exact hng, _, _, by k_mem, ?_⟩ (by rintro i m nw nw' ⟨a, b, c, d, e, f, hm, r⟩ k; exact ⟨a, b, c, d, e, f, k _ hm (.inr (.inr (.inr (.inl rfl)))), r.mono fun p hp h9 => k p hp (.inr (.inl h9.1))⟩) ?_ ?_
      · rw [List.take_zero, List.append_nil, Array.toList_push]
        exact PairsIn.snoc (hkc _ _ hp _ (by k_updF)) (List.mem_cons_self ..)
      · rintro i v I oI m₅ nw1 h5 tk5 gs5 hG5 hin ⟨e1, e2, e3, e4, itsI, nI, hxI, hpI⟩ K1 hlt5 ho F5 N5
        have hvi : vt[i]? = some v := by simpa using hin
        have hi9 : i < st.tail.length := by rw [← hvl]; exact (List.getElem?_eq_some_iff.mp hvi).1
        obtain ⟨q5, t5, u5, hq5, hm5⟩ := htp.get hi9
        obtain rfl : v = .ref q5 := by rw [hvi] at hq5; exact Option.some.inj hq5
        have nq5 : q5 ≠ x := hqx _ _ hm5 (by intro e; cases e)
        have hm6 : (q5, pairO (st.tail.getD i (⟨#[]⟩, ⟨#[]⟩)).1 (st.tail.getD i (⟨#[]⟩, ⟨#[]⟩)).2 t5 u5) ∈ nw1 := K1.mem1 (by k_mem) nq5
        have hT5 : IsTup h5 q5 #[.str (st.tail.getD i (⟨#[]⟩, ⟨#[]⟩)).1 t5, .str (st.tail.getD i (⟨#[]⟩, ⟨#[]⟩)).2 u5] := ⟨_, (N5 _ (List.mem_cons_of_mem _ hm6)).1, rfl, _, rfl⟩
        have nI5 : I ≠ x := Ne.symm (Nat.ne_of_lt (hlt5 (x, accO dx (its.push (.ref _)) (nx + 1)) (by k_mem)))
        have hsI : itsI.size ≤ 1000 := by have h9 := hpI.1; rw [Array.length_toList, List.length_append, List.length_append, List.length_singleton, List.length_take] at h9; exact size_fit h9 (hrow _) hvl3
        have hK5 : ∀ nw', Keep [x] nw1 nw' → PairsIn nw' itsI.toList (st.row st.at_ ++ [(ms.getD st.at_ ⟨#[]⟩, st.under)] ++ st.tail.take i) := fun nw' hk => hpI.keepC (fun p hp => N5 p (List.mem_cons_of_mem _ hp)) (C := [x]) (fun a ha => by obtain rfl := List.mem_singleton.mp ha; exact ⟨_, hxI, by intro e; cases e⟩) hk
        have e5 : st.row st.at_ ++ [(ms.getD st.at_ ⟨#[]⟩, st.under)] ++ st.tail.take (i + 1) = (st.row st.at_ ++ [(ms.getD st.at_ ⟨#[]⟩, st.under)] ++ st.tail.take i) ++ [((st.tail.getD i (⟨#[]⟩, ⟨#[]⟩)).1, (st.tail.getD i (⟨#[]⟩, ⟨#[]⟩)).2)] := by
          have e6 : st.tail[i]? = some (st.tail.getD i P0) := by rw [List.getD_eq_getElem?_getD, List.getElem?_eq_getElem hi9]; rfl
          rw [List.take_add_one, e6, ← List.append_assoc]; rfl
        k_steps
        unfold Hold
        refine TEnd.intro (by k_asm) (by k_asm) (List.forall_mem_cons.mpr ⟨by k_mem, fun _ h => nomatch h⟩) (by k_updF) ⟨by exact e1, by exact e2, by exact e3, by exact e4, _, _, by k_mem, ?_⟩
        rw [e5, Array.toList_push]
        exact PairsIn.snoc (hK5 _ (by k_updF)) (List.mem_cons_self ..)
      · rintro m₅ nw1 h5 tk5 gs5 hG5 ⟨e1, e2, e3, e4, itsI, nI, hxI, hpI⟩ K1 F5 N5
        have hx5 : (lr, listOf (xs.map fun p => Value.ref p.1).toArray n1) ∈ nw1 := K1.mem1 (by k_mem) nrx
        have hy5 : (y, accO dy ity ny) ∈ nw1 := K1.mem1 (by k_mem) (Ne.symm hxy)
        have hd5 : (dy, sizeO hhy tky (ks.getD (st.at_ + 1) 0) ty) ∈ nw1 := K1.mem1 (by k_mem) nyx
        rw [List.take_of_length_le (by rw [List.size_toArray, hvl]; exact Nat.le_refl _)] at hpI
        have hKn := hid nw1 ((Keep.trans (xs := [x]) (ys := [x]) (by k_updF) K1 (fun _ h => h)).more (fun a ha => by rw [List.mem_singleton.mp ha]; exact List.mem_cons_self ..))
        have hK6 : ∀ nw', Keep [x, y] nw1 nw' → PairsIn nw' itsI.toList (st.row st.at_ ++ [(ms.getD st.at_ ⟨#[]⟩, st.under)] ++ st.tail) := fun nw' hk => hpI.keepC N5 (C := [x, y]) (fun a ha => by
          rcases List.mem_cons.mp ha with rfl | ha
          · exact ⟨_, hxI, by intro e; cases e⟩
          · obtain rfl := List.mem_singleton.mp ha; exact ⟨_, hy5, by intro e; cases e⟩) hk
        clear K1
        k_steps
        have hsm := down_less (ms := ms) hat (Nat.le_trans (Nat.le_add_right _ _) hfew)
        have hkp : 0 < k := Nat.lt_of_lt_of_le (Nat.zero_lt_of_lt hsm) hk0
        have hKn := hKn.in
        refine WStep.intro (n' := k - 1) (by k_asm) (by k_asm) (Nat.sub_lt hkp Nat.one_pos) ⟨st.down ms, f - 1, _, Nat.le_sub_one_of_lt (Nat.lt_of_lt_of_le hsm hk0), Nat.sub_le_sub_right hf 1, (slideN_down (Nat.lt_of_lt_of_le hkp hf) hu0 hC4).trans hsl, by exact e1, by exact e2, ⟨_, rfl⟩, ⟨_, by exact e4⟩, rfl, ?_, by simpa [SSt.down] using hRR, ?_⟩ (by repeat (first | exact Bare.refl _ | refine Bare.trans ?_ (by assumption)))
        · refine hdown hc2 _ _ _ _ _ _ _ _ (by k_updF) (by k_mem) (hK6 _ (by k_updF)) (by k_mem) ?_ (List.mem_cons_self ..) ?_
          · have e9 : (ity.extract 0 (st.gap : Int).toNat).toList = ity.toList.take st.gap := by simp
            rw [e9]
            exact hkc _ _ (hpy.take st.gap) _ (by k_updF)
          · exact hkc _ _ ((hpy.drop st.gap).drop 1) _ (by k_updF)
        · refine hK.trans (Keep.more (xs := [x, y]) (by k_updF) fun a ha => ?_) fun _ h => h
          rcases List.mem_cons.mp ha with rfl | ha
          · exact hxk
          · obtain rfl := List.mem_singleton.mp ha; exact hyk
/-! rules for the law's own body: contracts at their calls, joins, compares -/
def JoinFit (x : Str) (ys : List Str) : Prop := (ys.map (·.length)).sum + ys.length * x.length ≤ 16777216
theorem law_units (env : Env) : (callerA.deeper env).units + 64 < cLine := by
  have e : (callerA.deeper env).units = (callerA.deeper (default : Env)).units := rfl
  rw [e]
  decide +kernel
section
variable {prog : Program} {w : World} {A : Around} {E : Value → Shared → Prop} {s : Shared} {h₀ : Heap} {L l l2 : Addr} {news : Led} {vs vs2 : List Value} {n n2 : Nat}
theorem lst_join {x : Str} {t : Tok} {ys : List Str} {Q : Value → Shared → Prop} (N : News h₀ L s.heap news) (hm : (l, listOf vs.toArray n) ∈ news) (hi : StrsAre vs ys) (hok : JoinFit x ys)
    (h : ∀ t' k, Q (.str (Txt.join x ys) t') { s with toks := k }) : wpAny (model prog w) A (call (.builtin "str.join") [.str x t, .ref l]) Q E s :=
  join_list (lst_is N hm) (by simpa using hi) hok h
theorem reads_strs {h : Heap} {vs : List Value} {ss : List Str} (hi : StrsAre vs ss) : ReadsAll h vs (ss.map PyData.str) [] := by
  induction hi with
  | nil => exact .nil
  | cons y t _ ih => exact .cons (as := []) (.str _ _) ih
theorem reads_ints {h : Heap} {vs : List Value} {ns : List Int} (hi : IntsAre vs ns) : ReadsAll h vs (ns.map PyData.int) [] := by
  induction hi with
  | nil => exact .nil
  | cons y t _ ih => exact .cons (as := []) (.int _ _) ih
theorem same_strs : ∀ ss : List Str, PySem.Spec.sameAll (ss.map PyData.str) (ss.map PyData.str) = true
  | [] => by simp [PySem.Spec.sameAll]
  | y :: r => by simp [PySem.Spec.sameAll, PySem.Spec.same, same_strs r]
theorem mix_strs : ∀ ss : List Str, SeqAt.noMixAll (ss.map PyData.str) (ss.map PyData.str) = true
  | [] => by simp [SeqAt.noMixAll]
  | y :: r => by simp [SeqAt.noMixAll, SeqAt.noMix, mix_strs r]
theorem same_ints : ∀ ss : List Int, PySem.Spec.sameAll (ss.map PyData.int) (ss.map PyData.int) = true
  | [] => by simp [PySem.Spec.sameAll]
  | y :: r => by simp [PySem.Spec.sameAll, PySem.Spec.same, same_ints r]
theorem mix_ints : ∀ ss : List Int, SeqAt.noMixAll (ss.map PyData.int) (ss.map PyData.int) = true
  | [] => by simp [SeqAt.noMixAll]
  | y :: r => by simp [SeqAt.noMixAll, SeqAt.noMix, mix_ints r]
theorem canLay_strs : ∀ ss : List Str, (∀ y ∈ ss, PyData.strOk y = true) → PyData.canLayAll0 (ss.map PyData.str) = true
  | [], _ => by simp [PyData.canLayAll0]
  | y :: r, h => by simp [PyData.canLayAll0, PyData.canLay0, canLay_strs r (fun q hq => h q (List.mem_cons_of_mem _ hq)), h y List.mem_cons_self]
theorem canLay_ints : ∀ ss : List Int, PyData.canLayAll0 (ss.map PyData.int) = true
  | [] => by simp [PyData.canLayAll0]
  | y :: r => by simp [PyData.canLayAll0, PyData.canLay0, canLay_ints r]
theorem depth_strs : ∀ ss : List Str, PyData.depthAll (ss.map PyData.str) ≤ 1
  | [] => by simp [PyData.depthAll]
  | p :: r => by
    have := depth_strs r
    simp only [List.map_cons, PyData.depthAll, PyData.depth]
    omega
theorem depth_ints : ∀ ss : List Int, PyData.depthAll (ss.map PyData.int) ≤ 1
  | [] => by simp [PyData.depthAll]
  | p :: r => by
    have := depth_ints r
    simp only [List.map_cons, PyData.depthAll, PyData.depth]
    omega
theorem shaped_of {xs : List PyData} (h1 : PyData.canLayAll0 xs = true) (h2 : PyData.depthAll xs ≤ 1) : SeqAt.shaped (.list xs) = true := by
  have h3 : PyData.depth (.list xs) ≤ 64 := by simp only [PyData.depth]; omega
  show (PyData.canLay0 (.list xs) && decide (PyData.depth (.list xs) ≤ 64)) = true
  rw [Bool.and_eq_true]
  exact ⟨by simp only [PyData.canLay0]; exact h1, decide_eq_true h3⟩
theorem ne_strs {ss ss2 : List Str} {Q : Value → Shared → Prop} (N : News h₀ L s.heap news) (hm : (l, listOf vs.toArray n) ∈ news) (hi : StrsAre vs ss) (hm2 : (l2, listOf vs2.toArray n2) ∈ news) (hi2 : StrsAre vs2 ss2) (he : ss = ss2) (hok : ∀ y ∈ ss, PyData.strOk y = true) (hu : A.units + 64 < cLine)
    (h : Q (.bool false) s) : wpAny (model prog w) A (compareOp .NotEq (.ref l) (.ref l2)) Q E s := by
  subst he
  refine ne_dataH_same (da := .list (ss.map PyData.str)) (db := .list (ss.map PyData.str)) (.list (N _ hm).1 rfl rfl (by simpa using reads_strs hi)) (.list (N _ hm2).1 rfl rfl (by simpa using reads_strs hi2)) (shaped_of (canLay_strs ss hok) (depth_strs ss)) (shaped_of (canLay_strs ss hok) (depth_strs ss)) hu ?_ ?_
  · simp [SeqAt.noMix, mix_strs]
  · simpa [PySem.Spec.same, same_strs] using h
theorem ne_ints {ns ns2 : List Int} {Q : Value → Shared → Prop} (N : News h₀ L s.heap news) (hm : (l, listOf vs.toArray n) ∈ news) (hi : IntsAre vs ns) (hm2 : (l2, listOf vs2.toArray n2) ∈ news) (hi2 : IntsAre vs2 ns2) (he : ns = ns2) (hu : A.units + 64 < cLine)
    (h : Q (.bool false) s) : wpAny (model prog w) A (compareOp .NotEq (.ref l) (.ref l2)) Q E s := by
  subst he
  refine ne_dataH_same (da := .list (ns.map PyData.int)) (db := .list (ns.map PyData.int)) (.list (N _ hm).1 rfl rfl (by simpa using reads_ints hi)) (.list (N _ hm2).1 rfl rfl (by simpa using reads_ints hi2)) (shaped_of (canLay_ints ns) (depth_ints ns)) (shaped_of (canLay_ints ns) (depth_ints ns)) hu ?_ ?_
  · simp [SeqAt.noMix, mix_ints]
  · simpa [PySem.Spec.same, same_ints] using h
theorem ne_pair {a b c d : Str} {t1 t2 t3 t4 : Tok} {Q : Value → Shared → Prop} (N : News h₀ L s.heap news) (hm : (l, pairO a b t1 t2) ∈ news) (hm2 : (l2, pairO c d t3 t4) ∈ news) (ha : a = c) (hb : b = d) (hoa : PyData.strOk a = true) (hob : PyData.strOk b = true) (hu : A.units + 64 < cLine)
    (h : Q (.bool false) s) : wpAny (model prog w) A (compareOp .NotEq (.ref l) (.ref l2)) Q E s := by
  subst ha hb
  have hs : SeqAt.shaped (.tuple [.str a, .str b]) = true := by
    have h3 : PyData.depth (.tuple [.str a, .str b]) ≤ 64 := by simp [PyData.depth, PyData.depthAll]
    show (PyData.canLay0 _ && decide (PyData.depth _ ≤ 64)) = true
    rw [Bool.and_eq_true]
    exact ⟨by simp [PyData.canLay0, PyData.canLayAll0, hoa, hob], decide_eq_true h3⟩
  refine ne_dataH_same (da := .tuple [.str a, .str b]) (db := .tuple [.str a, .str b]) (.tuple (N _ hm).1 rfl rfl (.cons (as := []) (.str _ _) (.cons (as := []) (.str _ _) .nil))) (.tuple (N _ hm2).1 rfl rfl (.cons (as := []) (.str _ _) (.cons (as := []) (.str _ _) .nil))) hs hs hu ?_ ?_
  · simp [SeqAt.noMix, SeqAt.noMixAll]
  · simpa [PySem.Spec.same, PySem.Spec.sameAll] using h
theorem ne_same_str {a b : Str} {t u : Tok} {Q : Value → Shared → Prop} (he : a = b) (h : Q (.bool false) s) : wpAny (model prog w) A (compareOp .NotEq (.str a t) (.str b u)) Q E s := by
  subst he
  exact PyProof.Rows.ne_str (by simpa using h)
end
theorem rules_27_1 : True := by
  (k_with "exec Assign" => ((k_here; (with_reducible show wpAny _ _ (exec (Stmt.Assign [PySem.Expr.Tuple _ _ _] (PySem.Expr.Subscript _ _ _) _) _) _ _ _); k_dflt (refine Assign_Tuple ?_))))
  (k_with "call ref" => ((k_here; (first | (with_reducible show wpAny _ _ (call (Value.ref 125) _) _ _ _) | (with_reducible show wpAny _ _ (call (Value.ref 130) _) _ _ _) | (with_reducible show wpAny _ _ (call (Value.ref 137) _) _ _ _) | (with_reducible show wpAny _ _ (call (Value.ref 144) _) _ _ _) | (with_reducible show wpAny _ _ (call (Value.ref 151) _) _ _ _) | (with_reducible show wpAny _ _ (call (Value.ref 156) _) _ _ _) | (with_reducible show wpAny _ _ (call (Value.ref 163) _) _ _ _) | (with_reducible show wpAny _ _ (call (Value.ref 114) _) _ _ _) | (with_reducible show wpAny _ _ (call (Value.ref 96) _) _ _ _) | (with_reducible show wpAny _ _ (call (Value.ref 74) _) _ _ _) | (with_reducible show wpAny _ _ (call (Value.ref 103) _) _ _ _) | fail "no contract"); refine Hold.in ?_)))
  (k_with "subscriptTail List BinOp ref int" => ((k_here; refine Hold.in ?_)))
  (k_with "call builtin:sorted" => ((k_here; refine Hold.in ?_)))
  (k_with "call builtin:str.join" => ((k_here; (with_reducible show wpAny _ _ (call (Value.builtin "str.join") [Value.str _ _, Value.ref _]) _ _ _); k_dflt (refine' lst_join ?z0k1 ?z0k2 ?z0k3 ?z0k4 ?_; (case z0k1 => k_asm); (case z0k2 => k_mem); (case z0k3 => with_reducible assumption); (case z0k4 => with_reducible assumption); k_whole); intro _ _)))
  (k_with "compareOp NotEq str str" => ((k_here; (with_reducible show wpAny _ _ (compareOp CmpOp.NotEq (Value.str _ _) (Value.str _ _)) _ _ _); k_dflt (refine' ne_same_str ?z0k1 ?_; (case z0k1 => with_reducible assumption); k_whole))))
  (k_with "compareOp NotEq ref ref" => ((k_here; (with_reducible show wpAny _ _ (compareOp CmpOp.NotEq (Value.ref _) (Value.ref _)) _ _ _); k_dflt (first
  | (refine' ne_strs ?z0N ?z0l ?z0i ?z0r ?z0j ?z0e ?z0o ?z0u ?_; (case z0N => k_asm); (case z0l => k_mem); (case z0i => with_reducible assumption); (case z0r => k_mem); (case z0j => with_reducible assumption); (case z0e => first | with_reducible assumption | exact rfl); (case z0o => with_reducible assumption); (case z0u => first | exact law_units _ | ((try simp only [units_deeper, units_in1]); (try dsimp only [ktrTop]); omega)); k_whole)
  | (refine' ne_ints ?z0N ?z0l ?z0i ?z0r ?z0j ?z0e ?z0u ?_; (case z0N => k_asm); (case z0l => k_mem); (case z0i => with_reducible assumption); (case z0r => k_mem); (case z0j => with_reducible assumption); (case z0e => first | with_reducible assumption | exact rfl); (case z0u => first | exact law_units _ | ((try simp only [units_deeper, units_in1]); (try dsimp only [ktrTop]); omega)); k_whole)
  | (refine' ne_pair ?z0N ?z0l ?z0r ?z0e ?z0f ?z0o ?z0p ?z0u ?_; (case z0N => k_asm); (case z0l => k_mem); (case z0r => k_mem); (case z0e => first | with_reducible assumption | exact rfl); (case z0f => first | with_reducible assumption | exact rfl); (case z0o => with_reducible assumption); (case z0p => with_reducible assumption); (case z0u => first | exact law_units _ | ((try simp only [units_deeper, units_in1]); (try dsimp only [ktrTop]); omega)); k_whole)
  | fail "ne"))))
  trivial
/-! the law's own body: its text, its environment, its state -/
def lawStmt : Stmt := (PySem.Challenge.pw_wo0004_01.main.body.getLast?).getD (.Pass default)
def lawBody : List Stmt := match lawStmt with | .FunctionDef _ _ b .. => b | _ => []
def lawAt (k : Nat) : Stmt := lawBody.getD k (.Pass default)
def lawScope : Scope := match lawStmt with | .FunctionDef (scope := s) .. => s | _ => default
abbrev lawEnv (L a : Addr) (cd : Value) : Env := envOfC (Str.ofString "law") lawScope L a cd
def forBody (k : Nat) : List Stmt := match lawBody[k]? with | some (.For _ _ b ..) => b | _ => []
/-! what the law reckons -/
structure LawOk (h wd low sz : Nat) (ws : List Nat) (cs : List Pt) : Prop where
  shape : (h, wd) ∈ shapes
  lo : 65529 ≤ low
  hi : low + h ≤ 65534
  size : sz ≤ 2
  word : ws ∈ wGen h wd (h * wd)
  parts : cs.length = h * wd
def textL (low : Nat) (ws : List Nat) (ps : List (List Nat)) : List (List Nat) := List.zipWith (fun r p => (low + r) :: p) ws ps
def textC (low : Nat) (ws : List Nat) (ps : List (List Nat)) : List Nat := (textL low ws ps).flatten
def marksL (low h : Nat) : List Str := (List.range h).map fun r => sgn (low + r)
structure LawA (L : Addr) (h wd low sz : Nat) (ws : List Nat) (cs : List Pt) (lw lp lm : Addr) (m : Str → Option Value) (nw : Led) : Prop where
  cHigh : ∃ o t, (L + 1, o) ∈ nw ∧ o.data = .cell (some (.int h t))
  cLow : ∃ o t, (L + 1 + 1, o) ∈ nw ∧ o.data = .cell (some (.int low t))
  cWord : ∃ o, (L + 1 + 1 + 1, o) ∈ nw ∧ o.data = .cell (some (.ref lw))
  cMarks : ∃ o, (L + 1 + 1 + 1 + 1, o) ∈ nw ∧ o.data = .cell (some (.ref lm))
  cAt : ∃ o v, (L + 1 + 1 + 1 + 1 + 1, o) ∈ nw ∧ o.data = .cell v
  nWide : ∃ t, m (Str.ofString "wide") = some (.int wd t)
  nSize : ∃ t, m (Str.ofString "size") = some (.int sz t)
  nParts : m (Str.ofString "parts") = some (.ref lp)
  nText : ∃ t, m (Str.ofString "text") = some (.str (mkS (textC low ws (partCodes cs))) t)
  word : ∃ vs n, (lw, listOf vs.toArray n) ∈ nw ∧ IntsAre vs (ws.map Int.ofNat)
  parts : ∃ vs n, (lp, listOf vs.toArray n) ∈ nw ∧ StrsAre vs ((partCodes cs).map mkS)
  marks : ∃ vs n, (lm, listOf vs.toArray n) ∈ nw ∧ StrsAre vs (marksL low h)
  tab1 : ∃ ps, (76, tabO ps) ∈ nw ∧ TriplesOk ps.toList
  tab2 : ∃ ps, (83, tabO ps) ∈ nw ∧ TriplesOk ps.toList
theorem LawA.mono {L : Addr} {h wd low sz : Nat} {ws : List Nat} {cs : List Pt} {lw lp lm : Addr} {m₀ m : Str → Option Value} {news nw nw' : Led} (A₀ : LawA L h wd low sz ws cs lw lp lm m₀ news) (A : LawA L h wd low sz ws cs lw lp lm m nw)
    (k : ∀ p ∈ nw, (∃ q ∈ news, q.1 = p.1) → p ∈ nw') : LawA L h wd low sz ws cs lw lp lm m nw' where
  cHigh := by obtain ⟨o, t, a, b⟩ := A.cHigh; obtain ⟨o₀, t₀, a₀, _⟩ := A₀.cHigh; exact ⟨o, t, k _ a ⟨_, a₀, rfl⟩, b⟩
  cLow := by obtain ⟨o, t, a, b⟩ := A.cLow; obtain ⟨o₀, t₀, a₀, _⟩ := A₀.cLow; exact ⟨o, t, k _ a ⟨_, a₀, rfl⟩, b⟩
  cWord := by obtain ⟨o, a, b⟩ := A.cWord; obtain ⟨o₀, a₀, _⟩ := A₀.cWord; exact ⟨o, k _ a ⟨_, a₀, rfl⟩, b⟩
  cMarks := by obtain ⟨o, a, b⟩ := A.cMarks; obtain ⟨o₀, a₀, _⟩ := A₀.cMarks; exact ⟨o, k _ a ⟨_, a₀, rfl⟩, b⟩
  cAt := by obtain ⟨o, t, a, b⟩ := A.cAt; obtain ⟨o₀, t₀, a₀, _⟩ := A₀.cAt; exact ⟨o, t, k _ a ⟨_, a₀, rfl⟩, b⟩
  nWide := A.nWide
  nSize := A.nSize
  nParts := A.nParts
  nText := A.nText
  word := by obtain ⟨o, t, a, b⟩ := A.word; obtain ⟨o₀, t₀, a₀, _⟩ := A₀.word; exact ⟨o, t, k _ a ⟨_, a₀, rfl⟩, b⟩
  parts := by obtain ⟨o, t, a, b⟩ := A.parts; obtain ⟨o₀, t₀, a₀, _⟩ := A₀.parts; exact ⟨o, t, k _ a ⟨_, a₀, rfl⟩, b⟩
  marks := by obtain ⟨o, t, a, b⟩ := A.marks; obtain ⟨o₀, t₀, a₀, _⟩ := A₀.marks; exact ⟨o, t, k _ a ⟨_, a₀, rfl⟩, b⟩
  tab1 := by obtain ⟨o, a, b⟩ := A.tab1; obtain ⟨o₀, a₀, _⟩ := A₀.tab1; exact ⟨o, k _ a ⟨_, a₀, rfl⟩, b⟩
  tab2 := by obtain ⟨o, a, b⟩ := A.tab2; obtain ⟨o₀, a₀, _⟩ := A₀.tab2; exact ⟨o, k _ a ⟨_, a₀, rfl⟩, b⟩
/-! loops whose invariant may speak of anything that stood ahead of them -/
def oldO (news : Led) (p : Addr × Obj) : Prop := dataO p ∨ ∃ q ∈ news, q.1 = p.1
section
variable {prog : Program} {w : World} {A : Around} {E : Value → Shared → Prop} {s : Shared} {env : Env} {h₀ : Heap} {body : List Stmt} {Q : Flow → Shared → Prop} {m₀ : Str → Option Value} {news : Led} {target : PySem.Expr}
theorem forO_range {r : Addr} {a b : Int} {t u v : Tok} {n : Nat} {n0 : Str} {px : Pos} (hh : A.handled = none) (hr : IsRange s.heap r a b 1 t u v) (hsm : Builtin.Range.small a b 1 = true) (hn : Builtin.Range.rangeSize a b 1 = (n : Int)) (F : Fr h₀ env.locals s.heap m₀) (N : News h₀ env.locals s.heap news) (xs : List Addr)
    (J : Nat → (Str → Option Value) → Led → Prop) (J0 : J 0 m₀ news) (hmono : ∀ i m nw nw', J i m nw → (∀ p ∈ nw, oldO news p → p ∈ nw') → J i m nw')
    (turn : ∀ i u I oI m₁ nw h tk gs, Bare s.gens gs → i < n → J i m₁ nw → Keep xs news nw → (∀ p ∈ news, p.1 < I) → oI.cls = .type "range_iterator" → Fr h₀ env.locals h m₁ → News h₀ env.locals h ((I, oI) :: nw) →
      wpAny (model prog w) A (assign (.Name n0 px) env (.int (a + (i : Int)) u)) (fun _ s₂ => wpAny (model prog w) A (execs body env) (TPost h₀ env.locals { s with heap := h, toks := tk, gens := gs } [(I, oI)] xs news (J (i + 1)) Q) E s₂) E { s with heap := h, toks := tk, gens := gs })
    (done : ∀ m₁ nw h tk gs, Bare s.gens gs → J n m₁ nw → Keep xs news nw → Fr h₀ env.locals h m₁ → News h₀ env.locals h nw → Q .next { s with heap := h, toks := tk, gens := gs }) :
    wpAny (model prog w) A (pyIter (.ref r)) (fun it s₂ => LoopG prog w A env (.Name n0 px) body Q E it s₂) E s := by
  refine src_range (target := .Name n0 px) rfl hh hr hsm hn F N fun lim I nm h' hnm S F' N' hL hlim => ?_
  have hws : ∀ v ∈ [(I, nm)], lim ≤ v.1 := fun v hv => by obtain ⟨_, _, _, _, _, _, _, h, _⟩ := S; exact (h v.1 (List.mem_map_of_mem hv)).2
  refine for_src S F' N' hL hlim (fun p hp => nomatch hp) xs (fun p hp => nomatch hp) (oldO news) (fun p hp v hv e => ?_) J J0 hmono ?_ ?_
  · rcases hp with hp | ⟨q, hq, e2⟩
    · rw [List.mem_singleton.mp hv]; exact hp.off (by rw [hnm]; simp [dataNm])
    · exact absurd (hlim q hq) (Nat.not_lt.mpr (by rw [e2, e]; exact hws v hv))
  · rintro i v m₁ nw h tk gs hg hi ⟨t, rfl⟩ hJ hK F₁ o ho N₁
    obtain ⟨_, _, _, _, _, _, _, hws, _⟩ := S
    exact turn i t I o m₁ nw h tk gs hg hi hJ hK (fun p hp => Nat.lt_of_lt_of_le (hlim p hp) (hws I (by simp)).2) (by rw [ho, hnm]) F₁ N₁
  · exact done
theorem forO_list {ax : Addr} {its : Array Value} {n : Nat} (hh : A.handled = none) (F : Fr h₀ env.locals s.heap m₀) (N : News h₀ env.locals s.heap news) (hm : (ax, listOf its n) ∈ news) (xs : List Addr) (hax : ax ∉ xs)
    (J : Nat → (Str → Option Value) → Led → Prop) (J0 : J 0 m₀ news) (hmono : ∀ i m nw nw', J i m nw → (∀ p ∈ nw, oldO news p → p ∈ nw') → J i m nw')
    (turn : ∀ i x I oI m₁ nw h tk gs, Bare s.gens gs → its[i]? = some x → J i m₁ nw → Keep xs news nw → (∀ p ∈ news, p.1 < I) → oI.cls = .type "list_iterator" → Fr h₀ env.locals h m₁ → News h₀ env.locals h ((I, oI) :: nw) →
      wpAny (model prog w) A (assign target env x) (fun _ s₂ => wpAny (model prog w) A (execs body env) (TPost h₀ env.locals { s with heap := h, toks := tk, gens := gs } [(I, oI)] xs news (J (i + 1)) Q) E s₂) E { s with heap := h, toks := tk, gens := gs })
    (done : ∀ m₁ nw h tk gs, Bare s.gens gs → J its.size m₁ nw → Keep xs news nw → Fr h₀ env.locals h m₁ → News h₀ env.locals h nw → Q .next { s with heap := h, toks := tk, gens := gs }) :
    wpAny (model prog w) A (pyIter (.ref ax)) (fun it s₂ => LoopG prog w A env target body Q E it s₂) E s := by
  refine src_list (target := target) (vs := its.toList) hh F N hm rfl rfl fun lim I h' S F' N' hL hlim => ?_
  have hws : ∀ v ∈ [(I, "list_iterator")], lim ≤ v.1 := fun v hv => by obtain ⟨_, _, _, _, _, _, _, h, _⟩ := S; exact (h v.1 (List.mem_map_of_mem hv)).2
  refine for_src S F' N' hL hlim (fun p hp => by rw [List.mem_singleton.mp hp]; exact hm) xs (fun p hp => by rw [List.mem_singleton.mp hp]; exact hax) (oldO news) (fun p hp v hv e => ?_) J J0 hmono ?_ ?_
  · rcases hp with hp | ⟨q, hq, e2⟩
    · rw [List.mem_singleton.mp hv]; exact hp.off (by simp [dataNm])
    · exact absurd (hlim q hq) (Nat.not_lt.mpr (by rw [e2, e]; exact hws v hv))
  · intro i v m₁ nw h tk gs hg hi hP hJ hK F₁ o ho N₁
    obtain ⟨_, _, _, _, _, _, _, hws, _⟩ := S
    exact turn i v I o m₁ nw h tk gs hg (by simpa using hP) hJ hK (fun p hp => Nat.lt_of_lt_of_le (hlim p hp) (hws I (by simp)).2) ho F₁ N₁
  · intro m₁ nw h tk gs hg hJ hK F₁ N₁
    exact done m₁ nw h tk gs hg (by simpa using hJ) hK F₁ N₁
variable {elts : List PySem.Expr} {tn : Nat} {tp : Pos}
end
theorem rules_28_1 : True := by
  (k_with "x_inv" => (((case sB => k_asm); (case sF => k_asm); (case sX => k_asm); (case sN => k_asm); (case sT => k_asm); (case s24 => first | assumption | exact Fr.keep (by assumption) _ _ (by assumption) | exact Fr.keep (by assumption) _ _ (Fr.keep (by assumption) _ _ (by assumption))); (case sK => first | exact rfl | assumption); (case sD => first | decide | ((try dsimp only [ktrTop]); omega)); (case sU => first | decide | ((try dsimp only [ktrTop]); omega)))))
  trivial
/-! sorted over a list of pairs of strs whose first strs differ -/
def kasEval {α : Type} (lt : Nat → Nat → Option Bool) : KasT α → Option α
  | .ret a => some a
  | .ask i j k => match lt i j with
    | some b => kasEval lt (k b)
    | none => none
theorem kasEval_wp {α : Type} {lt : Nat → Nat → Option Bool} {cmp : Nat → Nat → (Bool → Shared → Prop) → Shared → Prop} {s : Shared} {Q : α → Shared → Prop} (hc : ∀ i j b (C : Bool → Shared → Prop), lt i j = some b → C b s → cmp i j C s) :
    ∀ (t : KasT α) (a : α), kasEval lt t = some a → Q a s → t.kasWp cmp Q s
  | .ret _, _, h, hq => by cases h; exact hq
  | .ask i j k, a, h, hq => by
    unfold kasEval at h
    cases e : lt i j with
    | none => rw [e] at h; cases h
    | some b =>
      rw [e] at h
      exact hc i j b _ e (kasEval_wp hc (k b) a h hq)
def letLt (xs : List (Str × Str)) (i j : Nat) : Option Bool := match xs[i]?, xs[j]? with
  | some p, some q => if p.1.cps.toList = q.1.cps.toList then none else some (decide (p.1.cps.toList < q.1.cps.toList))
  | _, _ => none
def sortP (xs : List (Str × Str)) : Option (List (Str × Str)) := match kasEval (letLt xs) (kas_sort xs.length) with
  | some p => if p.toList.all (· < xs.length) then some (p.toList.map fun i => xs.getD i P0) else none
  | none => none
theorem sortP_some {xs ys : List (Str × Str)} (h : sortP xs = some ys) : ∃ p : Array Nat, kasEval (letLt xs) (kas_sort xs.length) = some p ∧ (∀ i ∈ p.toList, i < xs.length) ∧ ys = p.toList.map fun i => xs.getD i P0 := by
  unfold sortP at h
  cases e : kasEval (letLt xs) (kas_sort xs.length) with
  | none => rw [e] at h; cases h
  | some p =>
    rw [e] at h
    dsimp only at h
    by_cases ha : p.toList.all (· < xs.length) = true
    · rw [if_pos ha] at h
      exact ⟨p, rfl, fun i hi => by simpa using List.all_eq_true.mp ha i hi, (Option.some.inj h).symm⟩
    · rw [if_neg ha] at h; cases h
theorem letLt_some {xs : List (Str × Str)} {i j : Nat} {b : Bool} (h : letLt xs i j = some b) : ∃ p q, xs[i]? = some p ∧ xs[j]? = some q ∧ p.1 ≠ q.1 ∧ b = decide (p.1.cps.toList < q.1.cps.toList) := by
  unfold letLt at h
  cases e1 : xs[i]? with
  | none => rw [e1] at h; cases h
  | some p =>
    cases e2 : xs[j]? with
    | none => rw [e1, e2] at h; cases h
    | some q =>
      rw [e1, e2] at h
      dsimp only at h
      by_cases e : p.1.cps.toList = q.1.cps.toList
      · rw [if_pos e] at h; cases h
      · rw [if_neg e] at h
        exact ⟨p, q, rfl, rfl, fun e' => e (by rw [e']), (Option.some.inj h).symm⟩
theorem katTups_of {h : Heap} : ∀ {vs : List Value} {xs : List (Str × Str)}, vs.length = xs.length → (∀ (i : Nat) (p : Str × Str), xs[i]? = some p → ∃ (q : Addr) (t u : Tok), vs[i]? = some (Value.ref q) ∧ h.get? q = some (pairO p.1 p.2 t u)) → ∃ fs : List Value, KatTups h vs fs ∧ fs.length = xs.length ∧ ∀ v ∈ fs, ∃ a t, v = Value.str a t
  | [], [], _, _ => ⟨[], KatTups.nil, rfl, fun v hv => nomatch hv⟩
  | [], _ :: _, hl, _ => by simp at hl
  | _ :: _, [], hl, _ => by simp at hl
  | v :: vs, p :: xs, hl, hp => by
    obtain ⟨fs, k, hfl, hs⟩ := katTups_of (vs := vs) (xs := xs) (by simpa using hl) fun i q e => hp (i + 1) q (by simpa using e)
    obtain ⟨q, t, u, e1, e2⟩ := hp 0 p rfl
    simp at e1
    subst e1
    exact ⟨.str p.1 t :: fs, .cons e2 rfl rfl rfl k, by simp [hfl], fun v hv => by
      rcases List.mem_cons.mp hv with rfl | hv
      · exact ⟨_, _, rfl⟩
      · exact hs v hv⟩
section
variable {prog : Program} {w : World} {A : Around} {E : Value → Shared → Prop} {s : Shared} {h₀ : Heap} {L l : Addr} {m : Str → Option Value} {news : Led} {vs : List Value} {xs ys : List (Str × Str)} {n : Nat}
theorem sorted_pairs {Q : Value → Shared → Prop} (F : Fr h₀ L s.heap m) (N : News h₀ L s.heap news) (hm : (l, listOf vs.toArray n) ∈ news) (hp : PairsIn news vs xs) (h2 : 2 ≤ xs.length) (h64 : xs.length < 64) (hs : sortP xs = some ys)
    (h : ∀ D vs' c h', Fr h₀ L h' m → News h₀ L h' ((D, listOf vs'.toArray c) :: news) → PairsIn ((D, listOf vs'.toArray c) :: news) vs' ys → Q (.ref D) { s with heap := h' }) :
    wpAny (model prog w) A (call (.builtin "sorted") [.ref l]) Q E s := by
  have hlen := hp.1
  obtain ⟨pa, he, hlt, rfl⟩ := sortP_some hs
  refine kat_sorted F N (lst_is N hm) (by omega) (by omega) fun D e1 h' F' N' hD => ?_
  have hget : ∀ (i : Nat) (p : Str × Str), xs[i]? = some p → ∃ (q : Addr) (t u : Tok), vs[i]? = some (Value.ref q) ∧ h'.get? q = some (pairO p.1 p.2 t u) := fun i p e => by
    obtain ⟨q, t, u, a, b⟩ := hp.2 i p e
    exact ⟨q, t, u, a, (N' _ (List.mem_cons_of_mem _ b)).1⟩
  obtain ⟨fs, hk, hfl, hfs⟩ := katTups_of hlen hget
  refine kat_kind (T := .type "str") hk (by omega) (fun v hv => ?_) (by decide) ?_
  · obtain ⟨a, t, rfl⟩ := hfs v hv
    exact Looks.of_pure rfl
  rw [hlen]
  refine kasEval_wp (lt := letLt xs) (fun i j b C hb hC => ?_) _ pa he ?_
  · obtain ⟨p, q, e1', e2', hne, rfl⟩ := letLt_some hb
    obtain ⟨x, t, u, g1, g2⟩ := hget i p e1'
    obtain ⟨y, t', u', g3, g4⟩ := hget j q e2'
    unfold kas_ask
    rw [show vs.getD i Value.none = .ref x by rw [List.getD_eq_getElem?_getD, g1]; rfl, show vs.getD j Value.none = .ref y by rw [List.getD_eq_getElem?_getD, g3]; rfl]
    refine kat_lt g2 rfl g4 rfl ?_
    refine kat_cons ?_
    refine wpAny_eqBool_str ?_
    rw [decide_eq_false hne]
    refine kat_no ?_
    exact oneLt_str hC
  · refine KasFin.intro F' N' (g := fun o => (D, o) :: news) (by k_updF) fun h'' c F'' N'' => ?_
    have hp2 : PairsIn ((D, listOf (List.map (fun i => vs.getD i Value.none) pa.toList).toArray c) :: news) (pa.toList.map fun i => vs.getD i Value.none) (pa.toList.map fun i => xs.getD i P0) := by
      refine ⟨by simp, fun i p e => ?_⟩
      rw [List.getElem?_map] at e
      cases e3 : pa.toList[i]? with
      | none => rw [e3] at e; cases e
      | some k =>
        rw [e3] at e
        have hk2 := hlt k (List.mem_of_getElem? e3)
        have e4 : xs.getD k P0 = p := by simpa using e
        rw [List.getD_eq_getElem?_getD, List.getElem?_eq_getElem hk2] at e4
        obtain ⟨q, t, u, a, b⟩ := hp.2 k p (by rw [List.getElem?_eq_getElem hk2]; exact congrArg some e4)
        exact ⟨q, t, u, by rw [List.getElem?_map, e3]; simp [a], List.mem_cons_of_mem _ b⟩
    exact h D _ c h'' F'' N'' hp2
end
section
open Lx
/-! a list comprehension of two clauses, the second over an _Accumulator of pairs -/
theorem comp_two0 (elt t0 i0 t1 i1 : PySem.Expr) (scope : Scope) (pos : Pos) (it acc : Value) (env : Env) :
    compTurn (.ListComp elt [⟨t0, i0, [], 0⟩, ⟨t1, i1, [], 0⟩] scope pos) 0 it acc env = (do
      standAt i0.pos
      match ← pyNext it with
      | none => pure (.done .next)
      | some v =>
        letOwnedTupleGo t0 it v
        assign t0 env v
        let x ← eval i1 env
        standAt i1.pos
        let x ← foldedSetIterable i1 env x
        let y ← holding [x] (pyIter x)
        let _ ← runOwn (.compStart (.ListComp elt [⟨t0, i0, [], 0⟩, ⟨t1, i1, [], 0⟩] scope pos) 1 y acc env) env
        again (.compLoop (.ListComp elt [⟨t0, i0, [], 0⟩, ⟨t1, i1, [], 0⟩] scope pos) 0 it acc env)) := by rfl
theorem comp_two1 (elt t0 i0 t1 i1 : PySem.Expr) (scope : Scope) (pos : Pos) (it acc : Value) (env : Env) :
    compTurn (.ListComp elt [⟨t0, i0, [], 0⟩, ⟨t1, i1, [], 0⟩] scope pos) 1 it acc env = (do
      standAt i1.pos
      match ← pyNext it with
      | none => pure (.done .next)
      | some v =>
        letOwnedTupleGo t1 it v
        assign t1 env v
        (do let _ ← call (.builtin "list.append") [acc, ← eval elt env])
        again (.compLoop (.ListComp elt [⟨t0, i0, [], 0⟩, ⟨t1, i1, [], 0⟩] scope pos) 1 it acc env)) := by rfl
section
variable {prog : Program} {w : World} {A : Around} {E : Value → Shared → Prop} {s : Shared} {R : Result → Shared → Prop}
theorem compStart_one {elt t0 i0 t1 i1 : PySem.Expr} {scope : Scope} {pos : Pos} {it acc : Value} {env : Env}
    (h0 : codeAny (model prog w) A (.compLoop (.ListComp elt [⟨t0, i0, [], 0⟩, ⟨t1, i1, [], 0⟩] scope pos) 1 it acc env) R s)
    (h : wpAny (model prog w) A (pyIter it) (fun it' s' => codeAny (model prog w) A (.compLoop (.ListComp elt [⟨t0, i0, [], 0⟩, ⟨t1, i1, [], 0⟩] scope pos) 1 it' acc env) R s')
      (notedBy (model prog w) A env fun x s' => R (.error x) s') s) :
    codeAny (model prog w) A (.compStart (.ListComp elt [⟨t0, i0, [], 0⟩, ⟨t1, i1, [], 0⟩] scope pos) 1 it acc env) R s := by
  refine codeAny_of_tree ?_
  show wpAny _ _ ((compStart (.ListComp elt [⟨t0, i0, [], 0⟩, ⟨t1, i1, [], 0⟩] scope pos) 1 it acc env).onRaise (fun x => do noteFrame x env; standAt theWindowsPlace)) _ _ s
  refine wpAny_notedAt ?_
  unfold compStart
  show wpAny _ _ (ask >>= _) _ _ s
  refine wpAny_bind (wpAny_askSetting (wpAny_ite ?_))
  split
  · first
      | exact wpAny_bind (wpAny_pure (wpAny_pure (And.intro rfl h0)))
      | exact wpAny_pure (And.intro rfl h0)
  · first
      | exact wpAny_bind (wpAny_rule (wpAny_bind (wpAny_standAt (wpAny_bind (wpAny_mono h (fun it' s' h' => wpAny_pure (And.intro rfl h')) fun _ _ x => x)))))
      | (refine wpAny_bind (wpAny_rule ?_); show wpAny _ _ (standAt i1.pos >>= _) _ _ s; exact wpAny_bind (wpAny_standAt (wpAny_bind (wpAny_mono h (fun it' s' h' => wpAny_pure (And.intro rfl h')) fun _ _ x => x))))
/-- the state of both loops -/
structure Lv (h₀ : Heap) (L C D I : Addr) (lr : Addr) (m : Str → Option Value) (news : Led) (h : Heap) (ys : List Value) (zs : List (Str × Str)) (i : Nat) (m' : Str → Option Value) (nw : Led) : Prop where
  F : Fr h₀ L h m
  hC : h.Ns C m'
  hD : h.get? D = some (lcObj ys)
  hI : h.IsListIter I lr i
  N : News h₀ L h nw
  off : ∀ p ∈ nw, p.1 ≠ C ∧ p.1 ≠ D ∧ p.1 ≠ I
  K : Keep [] news nw
  P : PairsIn nw ys zs
  ne : C ≠ D ∧ C ≠ I ∧ D ≠ I ∧ C ≠ L ∧ D ≠ L ∧ I ≠ L ∧ h₀.get? C = none ∧ h₀.get? D = none ∧ h₀.get? I = none
variable {h₀ h h' : Heap} {L C D I lr : Addr} {m m' m'' : Str → Option Value} {news nw : Led} {ys : List Value} {zs : List (Str × Str)} {i : Nat}
theorem Lv.ext (V : Lv h₀ L C D I lr m news h ys zs i m' nw) (hs : ∀ b o, h.get? b = some o → h'.get? b = some o) : Lv h₀ L C D I lr m news h' ys zs i m' nw :=
  ⟨V.F.keeps hs, V.hC.at' fun o e => hs _ o e, hs _ _ V.hD, V.hI.at fun o e => hs _ o e, V.N.grown hs, V.off, V.K, V.P, V.ne⟩
theorem Lv.frC (V : Lv h₀ L C D I lr m news h ys zs i m' nw) {P : Addr} (hP : P = C ∨ P = D ∨ P = I) (hs : Heap.ExtBut P h h') : Fr h₀ L h' m ∧ News h₀ L h' nw := by
  obtain ⟨n1, n2, n3, n4, n5, n6, n7, n8, n9⟩ := V.ne
  have hL : P ≠ L := by rcases hP with rfl | rfl | rfl <;> assumption
  have h0 : h₀.get? P = none := by rcases hP with rfl | rfl | rfl <;> assumption
  refine ⟨⟨V.F.ns.at' fun o e => hs _ o (Ne.symm hL) e, fun b o e => hs b o (fun q => by rw [q, h0] at e; cases e) (V.F.keep b o e), V.F.above⟩, fun p hp => ⟨hs _ _ ?_ (V.N p hp).1, (V.N p hp).2⟩⟩
  obtain ⟨o1, o2, o3⟩ := V.off p hp
  rcases hP with rfl | rfl | rfl <;> assumption
theorem Lv.atC (V : Lv h₀ L C D I lr m news h ys zs i m' nw) (hs : Heap.ExtBut C h h') (hn : h'.Ns C m'') : Lv h₀ L C D I lr m news h' ys zs i m'' nw :=
  have ⟨F, N⟩ := V.frC (.inl rfl) hs
  ⟨F, hn, hs _ _ (Ne.symm V.ne.1) V.hD, V.hI.at fun o e => hs _ o (Ne.symm V.ne.2.1) e, N, V.off, V.K, V.P, V.ne⟩
theorem Lv.atI (V : Lv h₀ L C D I lr m news h ys zs i m' nw) (hs : Heap.ExtBut I h h') {j : Nat} (hn : h'.IsListIter I lr j) : Lv h₀ L C D I lr m news h' ys zs j m' nw :=
  have ⟨F, N⟩ := V.frC (.inr (.inr rfl)) hs
  ⟨F, V.hC.at' fun o e => hs _ o V.ne.2.1 e, hs _ _ V.ne.2.2.1 V.hD, hn, N, V.off, V.K, V.P, V.ne⟩
theorem Lv.atD (V : Lv h₀ L C D I lr m news h ys zs i m' nw) (hs : Heap.ExtBut D h h') {ys' : List Value} {zs' : List (Str × Str)} (hn : h'.get? D = some (lcObj ys')) (hP : PairsIn nw ys' zs') : Lv h₀ L C D I lr m news h' ys' zs' i m' nw :=
  have ⟨F, N⟩ := V.frC (.inr (.inl rfl)) hs
  ⟨F, V.hC.at' fun o e => hs _ o V.ne.1 e, hn, V.hI.at fun o e => hs _ o (Ne.symm V.ne.2.2.1) e, N, V.off, V.K, hP, V.ne⟩
theorem Lv.new (V : Lv h₀ L C D I lr m news h ys zs i m' nw) {o : Obj} (hf : o.isFreed = false := by rfl) : Lv h₀ L C D I lr m news (h.push o) ys zs i m' ((h.objs.size, o) :: nw) := by
  have V' := V.ext (h' := h.push o) fun b x e => Heap.get?_push_of_some _ e
  obtain ⟨oC, hoC, _⟩ := LCg.ns_obj V.hC
  obtain ⟨oI, hoI, _⟩ := V.hI
  refine ⟨V'.F, V'.hC, V'.hD, V'.hI, News.push V.F V.N o hf, fun p hp => ?_, fun p hp hn => List.mem_cons_of_mem _ (V.K p hp hn), V.P.sub fun p hp => List.mem_cons_of_mem _ hp, V.ne⟩
  rcases List.mem_cons.mp hp with rfl | hp
  · exact ⟨Nat.ne_of_gt (Heap.lt_size hoC), Nat.ne_of_gt (Heap.lt_size V.hD), Nat.ne_of_gt (Heap.lt_size hoI)⟩
  · exact V.off p hp
theorem Lv.but (V : Lv h₀ L C D I lr m news h ys zs i m' nw) {P : Addr} (hs : Heap.ExtBut P h h') (h1 : C ≠ P) (h2 : D ≠ P) (h3 : I ≠ P) (h4 : L ≠ P) (h5 : h₀.get? P = none) (h6 : ∀ p ∈ nw, p.1 ≠ P) : Lv h₀ L C D I lr m news h' ys zs i m' nw :=
  ⟨⟨V.F.ns.at' fun o e => hs _ o h4 e, fun b o e => hs b o (fun q => by rw [q, h5] at e; cases e) (V.F.keep b o e), V.F.above⟩, V.hC.at' fun o e => hs _ o h1 e, hs _ _ h2 V.hD, V.hI.at fun o e => hs _ o h3 e,
    fun p hp => ⟨hs _ _ (h6 p hp) (V.N p hp).1, (V.N p hp).2⟩, V.off, V.K, V.P, V.ne⟩
def swapP (p : Str × Str) : Str × Str := (p.2, p.1)
theorem take_flat {α : Type} : ∀ (R : List (List α)) (i : Nat), i < R.length → (R.take (i + 1)).flatten = (R.take i).flatten ++ R.getD i []
  | a :: R, 0, _ => by simp
  | a :: R, i + 1, h => by
    have ih := take_flat R i (by simpa using h)
    rw [List.take_succ_cons, List.take_succ_cons, List.flatten_cons, List.flatten_cons, ih, List.append_assoc]
    rfl
theorem take_swap (r : List (Str × Str)) (j : Nat) (h : j < r.length) : (r.take (j + 1)).map swapP = (r.take j).map swapP ++ [((r.getD j (⟨#[]⟩, ⟨#[]⟩)).2, (r.getD j (⟨#[]⟩, ⟨#[]⟩)).1)] := by
  rw [List.take_add_one, List.map_append, List.getElem?_eq_getElem h, List.getD_eq_getElem?_getD, List.getElem?_eq_getElem h]
  rfl
theorem lv_ne {g : Heap} {C D I L : Addr} (hD : D = I + 1) (hC : C = I + 2) (hL : L < I) (o : ∀ b, I ≤ b → g.get? b = none) : C ≠ D ∧ C ≠ I ∧ D ≠ I ∧ C ≠ L ∧ D ≠ L ∧ I ≠ L ∧ g.get? C = none ∧ g.get? D = none ∧ g.get? I = none := by
  simp only [Addr] at *
  exact ⟨by omega, by omega, by omega, by omega, by omega, by omega, o _ (by omega), o _ (by omega), o _ (by omega)⟩
theorem lv_low {C D I b : Addr} (hD : D = I + 1) (hC : C = I + 2) (hb : b < I) : b ≠ C ∧ b ≠ D ∧ b ≠ I := by
  simp only [Addr] at *
  exact ⟨by omega, by omega, by omega⟩
inductive LvO (h₀ : Heap) (L C D I lr : Addr) (m : Str → Option Value) (news : Led) (Rw : List (List (Str × Str))) (s : Shared) (k : Nat) (s' : Shared) : Prop
  | mk (h' : Heap) (tk i : Nat) (ys : List Value) (m' : Str → Option Value) (nw : Led) (_ : s' = { s with heap := h', toks := tk }) (_ : i ≤ Rw.length) (_ : k = Rw.length + 1 - i) (_ : ys.length ≤ 300) (_ : Lv h₀ L C D I lr m news h' ys ((Rw.take i).flatten.map swapP) i m' nw)
inductive LvI (h₀ : Heap) (L C D I lr : Addr) (m : Str → Option Value) (news : Led) (Rw : List (List (Str × Str))) (s : Shared) (i z : Nat) (I1 x : Addr) (k : Nat) (s' : Shared) : Prop
  | mk (h' : Heap) (tk j : Nat) (ys : List Value) (m' : Str → Option Value) (nw : Led) (_ : s' = { s with heap := h', toks := tk }) (_ : j ≤ z) (_ : k = z + 1 - j) (_ : Lv h₀ L C D I lr m news h' ys ((Rw.take i).flatten.map swapP ++ ((Rw.getD i []).take j).map swapP) (i + 1) m' nw) (_ : h'.IsListIter I1 x j) (_ : ∀ p ∈ nw, p.1 ≠ I1)
set_option maxHeartbeats 4000000 in
theorem lc_left {env : Env} {x0 xa xb : Str} {p0 p1 pa pb qa qb pt pq pos : Pos} {kt kq : Nat} {i0 : PySem.Expr} {scope : Scope} {cl : List (Str × Addr)} {Q : Value → Shared → Prop} {n1 : Nat} {xs : List (Addr × Addr)} {Rw : List (List (Str × Str))} {ks : List Int}
    (F : Fr h₀ L s.heap m) (X : (hd.heap_39 w.params).In h₀) (N : News h₀ L s.heap news) (hm : (lr, listOf (xs.map fun p => Value.ref p.1).toArray n1) ∈ news) (hR : RowsIn news xs Rw ks) (hsum : (Rw.map List.length).sum ≤ 200) (hh : A.handled = none)
    (hev : ∀ Q : Value → Shared → Prop, Q (.ref lr) s → wpAny (model prog w) A (eval i0 env) Q E s)
    (hclos : closureFor scope env = pure cl) (hcell : ∀ y ∈ scope.names, y.2 ≠ .cell) (hkind : scope.kind = .function) (hnames : ∀ y ∈ scope.names, y.2 = .local → scope.names.lookup y.1 = some .local)
    (hx0 : scope.names.lookup x0 = some .local) (hxa : scope.names.lookup xa = some .local) (hxb : scope.names.lookup xb = some .local) (hab : xa ≠ xb) (d0 : (x0 == ("__debug__" : Str)) = false) (da : (xa == ("__debug__" : Str)) = false) (db : (xb == ("__debug__" : Str)) = false)
    (hs : ∀ x, foldedSetIterable i0 env x = pure x)
    (hQ : ∀ D h' tk vs nw, (∀ p ∈ news, p.1 < D) → Fr h₀ L h' m → News h₀ L h' ((D, lcObj vs) :: nw) → Keep [] news nw → PairsIn nw vs (Rw.flatten.map swapP) → Q (.ref D) { s with heap := h', toks := tk }) :
    wpAny (model prog w) A (eval (.ListComp (.Tuple [.Name xb pb, .Name xa pa] kt pt) [⟨.Name x0 p0, i0, [], 0⟩, ⟨.Tuple [.Name xa qa, .Name xb qb] kq pq, .Name x0 p1, [], 0⟩] scope pos) env) Q E s := by
  have hlr := N _ hm
  have hl : s.heap.IsList lr (xs.map fun p => Value.ref p.1).toArray := ⟨_, hlr.1, rfl, _, rfl⟩
  have hlt : lr < s.heap.objs.size := Heap.lt_size hlr.1
  have hL : L < s.heap.objs.size := F.ns.lt
  have hRl : xs.length = Rw.length := hR.1
  rw [eval_ListComp]
  refine wpAny_comprehension_free (use := none) rfl hs hclos hkind hnames (hev _ (wpAny_pyIter_list hl ?_))
  refine wpAny_newObj_type (wpAny_newFunctionEnv hcell (by intro y hy; simp at hy) (fun h₁ hns₁ hsb₁ => ?_) hkind)
  dsimp only at hns₁ hsb₁ ⊢
  have old₀ : ∀ b, s.heap.objs.size ≤ b → h₀.get? b = none := fun b hb => Heap.get?_none_of_le (Nat.le_trans F.above (Nat.le_trans (Nat.le_of_lt hL) hb))
  generalize hH1 : s.heap.push { cls := .type "list_iterator", data := .fields #[.ref lr, .int 0 0] } = H1 at hns₁ hsb₁ ⊢
  generalize hH2 : H1.push { cls := .type "list", dict := none, data := .seq ([] : List Value).toArray } = H2 at hns₁ hsb₁ ⊢
  have hD1 : H1.objs.size = s.heap.objs.size + 1 := by rw [← hH1, Heap.size_push]
  have hC1 : H2.objs.size = s.heap.objs.size + 2 := by rw [← hH2, Heap.size_push, hD1]
  have oI : H1.get? s.heap.objs.size = some { cls := .type "list_iterator", data := .fields #[.ref lr, .int 0 0] } := hH1 ▸ Heap.get?_push_size _ rfl
  have oD : H2.get? H1.objs.size = some (lcObj []) := hH2 ▸ Heap.get?_push_size _ rfl
  have oI2 : H2.get? s.heap.objs.size = some { cls := .type "list_iterator", data := .fields #[.ref lr, .int 0 0] } := hH2 ▸ Heap.get?_push_of_some _ oI
  have old2 : ∀ b o, s.heap.get? b = some o → H2.get? b = some o := fun b o e => hH2 ▸ Heap.get?_push_of_some _ (hH1 ▸ Heap.get?_push_of_some _ e)
  generalize hIn : s.heap.objs.size = I at *
  generalize hDn : H1.objs.size = D at *
  generalize hCn : H2.objs.size = C at *
  have old : ∀ b o, b ≠ C → H2.get? b = some o → h₁.get? b = some o := fun b o hb e => hsb₁.extBut b o hb (Heap.get?_push_of_some _ e)
  have ltI : ∀ b o, s.heap.get? b = some o → b < I := fun b o e => hIn ▸ Heap.lt_size e
  have nne := lv_ne hD1 hC1 hL old₀
  have nCD := nne.1
  have nCI := nne.2.1
  have hlow : ∀ b o, s.heap.get? b = some o → b ≠ C ∧ b ≠ D ∧ b ≠ I := fun b o e => lv_low hD1 hC1 (ltI b o e)
  have s1 : ∀ b o, s.heap.get? b = some o → h₁.get? b = some o := fun b o e => old b o (hlow b o e).1 (old2 b o e)
  have V0 : ∀ m₀, h₁.Ns C m₀ → Lv h₀ L C D I lr m news h₁ [] [] 0 m₀ news := fun m₀ hn => by
    refine ⟨F.keeps s1, hn, old _ _ (Ne.symm nCD) oD, ⟨_, old _ _ (Ne.symm nCI) oI2, rfl, rfl⟩, N.grown s1, fun p hp => hlow _ _ (N p hp).1, Keep.rfl', .nil, nne⟩

  have hlx : lr ≠ I := Nat.ne_of_lt (ltI _ _ hlr.1)
  have loop : ∀ (s₃ : Shared) (RR : Result → Shared → Prop), (∃ m₀, h₁.Ns C m₀) → s₃.heap = h₁ → s₃ = { s with heap := h₁, toks := s₃.toks } →
      (∀ h' h2 tk ys m' nw, Lv h₀ L C D I lr m news h' ys (Rw.flatten.map swapP) Rw.length m' nw → Heap.ExtBut I h' h2 → RR (.ok .next) { s with heap := h2, toks := tk }) →
      codeAny (model prog w) A (.compLoop (.ListComp (.Tuple [.Name xb pb, .Name xa pa] kt pt) [⟨.Name x0 p0, i0, [], 0⟩, ⟨.Tuple [.Name xa qa, .Name xb qb] kq pq, .Name x0 p1, [], 0⟩] scope pos) 0 (.ref I) (.ref D) (compEnvC scope cl C env)) RR s₃ := by
    rintro s₃ RR ⟨m₀, hn₀⟩ _ e3 hRR
    rw [e3]
    generalize s₃.toks = tk₀
    clear e3
    have V00 := V0 _ hn₀
    refine codeAny_loop rfl (LvO h₀ L C D I lr m news Rw s) (fun k s' hI => ?_) (Rw.length + 1)
      ⟨h₁, tk₀, 0, [], m₀, news, rfl, Nat.zero_le _, rfl, by simp, by simpa using V00⟩
    obtain ⟨h', tk, i, ys, m', nw, rfl, hi, rfl, _, V⟩ := hI
    show wpAny _ A ((compTurn _ 0 (.ref I) (.ref D) (compEnvC scope cl C env)).onRaise (fun x => do noteFrame x (compEnvC scope cl C env); theTreesLotGoes x)) _ _ _
    refine wpAny_noted ?_
    rw [comp_two0]
    refine wpAny_bind (wpAny_standAt (wpAny_bind ?_))
    have hls : h'.IsList lr (xs.map fun p => Value.ref p.1).toArray := ⟨_, (V.N _ (V.K.mem0 hm)).1, rfl, _, rfl⟩
    by_cases hlt2 : i < Rw.length
    · obtain ⟨x, dx, its, n, hh9, tk9, t9, hx, hacc, hdx, hp⟩ := hR.get hlt2
      have hacc' := V.K.mem0 hacc
      have hdx' := V.K.mem0 hdx
      refine wpAny_pyNext_list_item V.hI hls (x := .ref x) (by simp [hx]) fun h2 hI2 hs2 => ?_
      have V2 := V.atI hs2.extBut hI2
      refine wpAny_bind (letGo_listiter V2.hI ?_)
      refine wpAny_bind (asg_name hx0 hkind V2.hC fun h3 tk3 m3 hn3 hm3 hs3 => ?_)
      have V3 := V2.atC (h' := h3) (fun b o hb e => hs3 b o hb e) hn3
      refine wpAny_bind (wpAny_Name (wpAny_loadName_local hkind (lookup_relabel_local hx0) V3.hC hm3.1 ?_) d0)
      refine wpAny_bind (wpAny_standAt (wpAny_bind (wpAny_of_eq (a := Value.ref x) (by rfl) ?_)))
      refine wpAny_bind (wpAny_holding (acc_iter V3.F X V3.N hacc' hdx' ?_))
      have V4 : Lv h₀ L C D I lr m news (h3.push { cls := .type "list_iterator", data := .fields #[.ref x, .int 0 0] }) ys ((Rw.take i).flatten.map swapP) (i + 1) m3 nw := V3.ext fun b o e => Heap.get?_push_of_some _ e
      have hI1 : (h3.push { cls := .type "list_iterator", data := .fields #[.ref x, .int 0 0] }).IsListIter h3.objs.size x 0 := ⟨_, Heap.get?_push_size _ rfl, rfl, rfl⟩
      have hlti : ∀ b o, h3.get? b = some o → b ≠ h3.objs.size := fun b o e => Nat.ne_of_lt (Heap.lt_size e)
      have n1 : C ≠ h3.objs.size ∧ D ≠ h3.objs.size ∧ I ≠ h3.objs.size ∧ L ≠ h3.objs.size ∧ h₀.get? h3.objs.size = none := by
        obtain ⟨oC, hoC, _⟩ := LCg.ns_obj V3.hC
        obtain ⟨oI, hoI, _⟩ := V3.hI
        exact ⟨hlti _ _ hoC, hlti _ _ V3.hD, hlti _ _ hoI, Nat.ne_of_lt V3.F.ns.lt, Heap.get?_none_of_le (Nat.le_trans V3.F.above (Nat.le_of_lt V3.F.ns.lt))⟩
      have o1 : ∀ p ∈ nw, p.1 ≠ h3.objs.size := fun p hp => hlti _ _ (V3.N p hp).1
      have hix : x ≠ h3.objs.size := o1 _ hacc'
      generalize h3.push { cls := .type "list_iterator", data := .fields #[.ref x, .int 0 0] } = h4 at *
      generalize h3.objs.size = I1 at *
      obtain ⟨nC1, nD1, nI1, nL1, z1⟩ := n1
      have hpl : its.size = (Rw.getD i []).length := by simpa using hp.1
      have hr200 : its.size ≤ 200 := by rw [hpl]; exact Nat.le_trans (len_get Rw i) hsum
      refine wpAny_bind (wpAny_runOwn ?_)
      have inner : ∀ (s₃ : Shared) (RI : Result → Shared → Prop), s₃ = { s with heap := h4, toks := s₃.toks } →
          (∀ h' h2 tk ys m' nw, ys.length ≤ 200 * 200 + 200 → Lv h₀ L C D I lr m news h' ys ((Rw.take (i + 1)).flatten.map swapP) (i + 1) m' nw → (∀ p ∈ nw, p.1 ≠ I1) → Heap.ExtBut I1 h' h2 → RI (.ok .next) { s with heap := h2, toks := tk }) →
          codeAny (model prog w) A (.compLoop (.ListComp (.Tuple [.Name xb pb, .Name xa pa] kt pt) [⟨.Name x0 p0, i0, [], 0⟩, ⟨.Tuple [.Name xa qa, .Name xb qb] kq pq, .Name x0 p1, [], 0⟩] scope pos) 1 (.ref I1) (.ref D) (compEnvC scope cl C env)) RI s₃ := by
        rintro s₃ RI e4 hRI
        rw [e4]
        generalize s₃.toks = tk₁
        clear e4
        refine codeAny_loop rfl (LvI h₀ L C D I lr m news Rw s i its.size I1 x) (fun k s' hI => ?_) (its.size + 1)
          ⟨h4, tk₁, 0, ys, m3, nw, rfl, Nat.zero_le _, rfl, by simpa using V4, hI1, o1⟩
        clear V V2 V3 V4 hI1
        obtain ⟨h5, tk5, j, ys5, m5, nw5, rfl, hj, rfl, V5, hJ5, off5⟩ := hI
        show wpAny _ A ((compTurn _ 1 (.ref I1) (.ref D) (compEnvC scope cl C env)).onRaise (fun x => do noteFrame x (compEnvC scope cl C env); theTreesLotGoes x)) _ _ _
        refine wpAny_noted ?_
        rw [comp_two1]
        refine wpAny_bind (wpAny_standAt (wpAny_bind ?_))
        have hx5 := (V5.N _ (V5.K.mem0 hacc)).1
        have hlen5 : ys5.length ≤ 40000 := by
          rw [V5.P.1]
          have a1 : (Rw.take i).flatten.length ≤ 200 := by
            rw [List.length_flatten]
            refine Nat.le_trans ?_ hsum
            rw [← List.take_append_drop i (Rw.map List.length), List.sum_append, List.map_take]
            omega
          simp only [List.length_append, List.length_map, List.length_take]
          omega
        by_cases hlt3 : j < its.size
        · obtain ⟨q, t, u, e1, e2⟩ := hp.get (i := j) (by rw [← hpl]; exact hlt3)
          refine acc_next hJ5 hx5 (v := .ref q) (by simpa using e1) fun h6 hI6 hs6 => ?_
          have V6 := V5.but hs6.extBut nC1 nD1 nI1 nL1 z1 off5
          have e2' := V6.K.mem0 e2
          refine wpAny_bind (letGo_listiter hI6 ?_)
          refine wpAny_bind (asg_pair hh hxa hxb hab hkind V6.hC ⟨_, (V6.N _ e2').1, rfl, _, rfl⟩ fun h7 tk7 m7 hn7 hm7 hs7 => ?_)
          have V7 := V6.atC (h' := h7) (fun b o hb e => hs7 b o hb e) hn7
          have hI7 : h7.IsListIter I1 x (j + 1) := hI6.at fun o e => hs7 _ o (Ne.symm nC1) e
          refine wpAny_bind (wpAny_bind (wpAny_Tuple (wpAny_items_cons (wpAny_Name (wpAny_loadName_local hkind (lookup_relabel_local hxb) V7.hC hm7.2.1 ?_) db))))
          refine wpAny_items_cons (wpAny_Name (wpAny_loadName_local hkind (lookup_relabel_local hxa) V7.hC hm7.1 ?_) da)
          refine wpAny_items_nil ⟨le_sizeLine (by simp), ?_⟩
          have V8 := V7.new (o := { cls := .type "tuple", data := .seq [Value.str ((Rw.getD i []).getD j (⟨#[]⟩, ⟨#[]⟩)).2 u, Value.str ((Rw.getD i []).getD j (⟨#[]⟩, ⟨#[]⟩)).1 t].toArray })
          refine wpAny_bind (append_at (hsz := by rw [List.size_toArray]; exact le_sizeLine (by omega)) V8.hD fun h9 hs9 hD9 => ?_)
          have V9 := V8.atD hs9.extBut (ys' := ys5 ++ [.ref h7.objs.size]) (zs' := ((Rw.take i).flatten.map swapP ++ ((Rw.getD i []).take j).map swapP) ++ [(((Rw.getD i []).getD j (⟨#[]⟩, ⟨#[]⟩)).2, ((Rw.getD i []).getD j (⟨#[]⟩, ⟨#[]⟩)).1)]) (hD9.trans (congrArg some (lcObj_push ys5 _))) (V8.P.snoc (t := u) (u := t) (List.mem_cons_self ..))
          have eT : ((Rw.take i).flatten.map swapP ++ ((Rw.getD i []).take j).map swapP) ++ [(((Rw.getD i []).getD j (⟨#[]⟩, ⟨#[]⟩)).2, ((Rw.getD i []).getD j (⟨#[]⟩, ⟨#[]⟩)).1)] = (Rw.take i).flatten.map swapP ++ ((Rw.getD i []).take (j + 1)).map swapP := by
            rw [take_swap _ _ (by rw [← hpl]; exact hlt3), List.append_assoc]
          rw [eT] at V9
          refine wpAny_pure (wpAny_pure ⟨rfl, its.size + 1 - (j + 1), by omega, h9, _, j + 1, _, m7, _, rfl, hlt3, rfl, V9, ?_, ?_⟩)
          · exact (hI7.at fun o e => Heap.get?_push_of_some _ e).at fun o e => hs9.extBut _ o (Ne.symm nD1) e
          · intro p hp
            obtain ⟨oI7, hoI7, _⟩ := hI7
            rcases List.mem_cons.mp hp with rfl | hp
            · exact Nat.ne_of_gt (Heap.lt_size hoI7)
            · exact off5 p hp
        · obtain rfl : j = its.size := Nat.le_antisymm hj (Nat.not_lt.mp hlt3)
          refine acc_stop hh hJ5 hx5 (by simp) fun h6 hs6 => ?_
          refine wpAny_pure (hRI h5 h6 tk5 ys5 m5 nw5 (by omega) ?_ off5 hs6)
          rw [take_flat Rw i hlt2, List.map_append]
          rw [hpl, List.take_length] at V5
          exact V5
      have out : ∀ (E' : Value → Shared → Prop) (h' h2 : Heap) tk ys m' nw, ys.length ≤ 200 * 200 + 200 → Lv h₀ L C D I lr m news h' ys ((Rw.take (i + 1)).flatten.map swapP) (i + 1) m' nw → (∀ p ∈ nw, p.1 ≠ I1) → Heap.ExtBut I1 h' h2 →
          wpAny (model prog w) A (again (.compLoop (.ListComp (.Tuple [.Name xb pb, .Name xa pa] kt pt) [⟨.Name x0 p0, i0, [], 0⟩, ⟨.Tuple [.Name xa qa, .Name xb qb] kq pq, .Name x0 p1, [], 0⟩] scope pos) 0 (.ref I) (.ref D) (compEnvC scope cl C env)))
            (fun fin s' => match fin with
              | .done f => RR (.ok f) s'
              | .again c' => c' = Code.compLoop (.ListComp (.Tuple [.Name xb pb, .Name xa pa] kt pt) [⟨.Name x0 p0, i0, [], 0⟩, ⟨.Tuple [.Name xa qa, .Name xb qb] kq pq, .Name x0 p1, [], 0⟩] scope pos) 0 (.ref I) (.ref D) (compEnvC scope cl C env) ∧ ∃ m_1, m_1 < Rw.length + 1 - i ∧ LvO h₀ L C D I lr m news Rw s m_1 s') E' { s with heap := h2, toks := tk } := by
        intro E' h' h2 tk ys m' nw _ V o5 hs
        have V' := V.but hs nC1 nD1 nI1 nL1 z1 o5
        refine wpAny_pure ⟨rfl, Rw.length + 1 - (i + 1), by omega, h2, tk, i + 1, ys, m', nw, rfl, hlt2, rfl, ?_, V'⟩
        rw [V.P.1, List.length_map, List.length_flatten]
        refine Nat.le_trans (Nat.le_trans ?_ hsum) (by omega)
        rw [← List.take_append_drop (i + 1) (Rw.map List.length), List.sum_append, List.map_take]
        omega
      refine compStart_one (inner _ _ rfl ?_) (wpAny_pyIter_listiter hI1 (inner _ _ rfl ?_))
      · exact fun h' h2 tk ys m' nw a b c d => out _ h' h2 tk ys m' nw a b c d
      · exact fun h' h2 tk ys m' nw a b c d => out _ h' h2 tk ys m' nw a b c d
    · obtain rfl : i = Rw.length := Nat.le_antisymm hi (Nat.not_lt.mp hlt2)
      refine wpAny_pyNext_list_end hh V.hI hls (by simp [hRl]) fun h2 hs2 => ?_
      rw [List.take_length] at V
      exact wpAny_pure (hRR h' h2 tk ys m' nw V hs2)
  refine codeAny_compStart_list (loop _ _ ⟨_, hns₁⟩ rfl rfl ?_) (wpAny_pyIter_listiter (V0 _ hns₁).hI (loop _ _ ⟨_, hns₁⟩ rfl rfl ?_))
  all_goals
    intro h' h2 tk ys m' nw V hs2
    have ⟨F2, N2⟩ := V.frC (.inr (.inr rfl)) hs2
    refine ⟨m', V.hC.at' fun o e => hs2 _ o nCI e, fun h'' hs'' => ?_⟩
    refine hQ D h'' tk ys nw (fun p hp => ?_) (F2.change hs'' nne.2.2.2.1 nne.2.2.2.2.2.2.1) (fun p hp => ?_) V.K V.P
    · have := ltI _ _ (N p hp).1
      simp only [Addr] at *; omega
    · rcases List.mem_cons.mp hp with rfl | hp
      · exact ⟨hs''.extBut _ _ (Ne.symm nCD) (hs2 _ _ nne.2.2.1 V.hD), nne.2.2.2.2.1, nne.2.2.2.2.2.2.2.1⟩
      · exact ⟨hs''.extBut _ _ (V.off p hp).1 (N2 p hp).1, (N2 p hp).2⟩
end
end
/-! from the law's first row to its first loop -/
theorem shapes_at {c : Int} {q0 q1 q2 q3 : Addr} {nw : Led} {a0 b0 a1 b1 a2 b2 a3 b3 : Tok} {g hh : Heap} {L : Addr} (_ : News g L hh nw) (h0 : (q0, ({ cls := .type "tuple", data := .seq #[.int 3 a0, .int 3 b0] } : Obj)) ∈ nw) (h1 : (q1, ({ cls := .type "tuple", data := .seq #[.int 4 a1, .int 2 b1] } : Obj)) ∈ nw)
    (h2 : (q2, ({ cls := .type "tuple", data := .seq #[.int 2 a2, .int 4 b2] } : Obj)) ∈ nw) (h3 : (q3, ({ cls := .type "tuple", data := .seq #[.int 5 a3, .int 2 b3] } : Obj)) ∈ nw) :
    ∃ (q : Addr) (h wd : Nat) (t u : Tok), ItemAt #[.ref q0, .ref q1, .ref q2, .ref q3] (Int.fmod c 4) (.ref q) ∧ (q, ({ cls := .type "tuple", data := .seq #[.int h t, .int wd u] } : Obj)) ∈ nw ∧ (h, wd) ∈ shapes := by
  have hm0 := Int.fmod_nonneg_of_pos c (b := 4) (by omega)
  have hm1 := Int.fmod_lt_of_pos c (b := 4) (by omega)
  have hc : Int.fmod c 4 = 0 ∨ Int.fmod c 4 = 1 ∨ Int.fmod c 4 = 2 ∨ Int.fmod c 4 = 3 := by omega
  rcases hc with e | e | e | e <;> rw [e]
  · exact ⟨q0, 3, 3, _, _, ⟨by omega, by omega, rfl⟩, h0, by simp [shapes]⟩
  · exact ⟨q1, 4, 2, _, _, ⟨by omega, by omega, rfl⟩, h1, by simp [shapes]⟩
  · exact ⟨q2, 2, 4, _, _, ⟨by omega, by omega, rfl⟩, h2, by simp [shapes]⟩
  · exact ⟨q3, 5, 2, _, _, ⟨by omega, by omega, rfl⟩, h3, by simp [shapes]⟩
theorem led_ned {g hh : Heap} {L a b : Addr} {o1 o2 : Obj} {nw : Led} (N : News g L hh nw) (h1 : (a, o1) ∈ nw) (h2 : (b, o2) ∈ nw) (hd : o1.data ≠ o2.data) : a ≠ b := fun e => by
  have e1 := (N _ h1).1
  have e2 := (N _ h2).1
  rw [e, e2] at e1
  exact hd (congrArg Obj.data (Option.some.inj e1).symm)
section
variable {w : World} {p : PySem.Program} {loose : List Str} {mean : ExcName → Option Value} {mg mb : Str → Option Value} {L a : Addr} {cd : Value} {h₀ : Heap} {m : Str → Option Value} {s : Shared} {Q : Flow → Shared → Prop} {E : Value → Shared → Prop} {nw : Led}
set_option maxHeartbeats 2000000 in
theorem law_s0 (B : Below callerA h₀ [] h₀) (F : Fr h₀ L s.heap m) (X : (hd.heap_39 w.params).In h₀) (N : News h₀ L s.heap nw) (T : Top p loose mean mg mb h₀) (X24 : h₀.get? 24 = some (set24 w.params))
   {l : Addr} {vs : List Value} {ns : List Int} {o1 : Obj} (hi : IntsAre vs ns) (hl : h₀.IsList l vs.toArray) (hm : m (Str.ofString "script") = some (.ref l)) (hc1 : (L + 1, o1) ∈ nw) (hd1 : o1.data = .cell none)
   (next : ∀ lc vs3 ns3 nc h wd t u o' m' nw' h' tk gs, (h, wd) ∈ shapes → Bare s.gens gs → Fr h₀ L h' m' → News h₀ L h' nw' → Keep [L + 1] nw nw' → (L + 1, o') ∈ nw' → o'.data = .cell (some (.int (h : Int) t)) → m' (Str.ofString "wide") = some (.int (wd : Int) u) → m' (Str.ofString "cells") = some (.ref lc) → (lc, listOf vs3.toArray nc) ∈ nw' → IntsAre vs3 ns3 → ns3.length = 3 →
      wpAny (model Challenge.rw_wo0004_01.row.prog w) (callerA.deeper (lawEnv L a cd)) (execs (lawBody.drop 2) (lawEnv L a cd)) Q (fun _ _ => False) { s with heap := h', toks := tk, gens := gs }) :
   wpAny (model Challenge.rw_wo0004_01.row.prog w) (callerA.deeper (lawEnv L a cd)) (execs (lawBody.drop 0) (lawEnv L a cd)) Q (fun _ _ => False) s := by
  obtain ⟨rest, hrest⟩ : ∃ r, r = lawBody.drop 2 := ⟨_, rfl⟩
  obtain ⟨sc, hsc⟩ : ∃ sc, sc = lawScope := ⟨_, rfl⟩
  obtain ⟨st0, hst0⟩ : ∃ x, x = lawAt 0 := ⟨_, rfl⟩
  obtain ⟨st1, hst1⟩ : ∃ x, x = lawAt 1 := ⟨_, rfl⟩
  rw [show lawBody.drop 0 = st0 :: st1 :: rest from by rw [hrest, hst0, hst1]; exact rfl]
  unfold lawEnv
  rw [← hsc]
  conv at hst0 => rhs; whnf
  conv at hst1 => rhs; whnf
  conv at hsc => rhs; whnf
  subst hst0 hst1 hsc
  k_steps
  unfold Hold
  k_dflt (refine' cells_spec hi rfl p loose mean mg mb ?_ ?_ ?_ ?_ ?_ ?_ ?_ ?_ ?_ ?_ callerA h₀ h₀ m s ?_ ?_ hl B F X N T X24 ?sK ?sD ?sU ?_; (case sK => exact rfl); (case sD => decide); (case sU => decide); k_whole)
  intro lc vs3 ns3 nc nw1 h1 tk1 gs1 F1 N1 K1 hlc hi3 h3 hG1
  have hc1' : (L + 1, o1) ∈ nw1 := K1.mem0 hc1
  have hne : lc ≠ L + 1 := led_ned N1 hlc hc1' (by rw [hd1]; intro e; cases e)
  clear F N
  have stB : StopB := trivial
  k_steps
  unfold Hold
  clear zs
  rename_i h4 q0 h5 ll0 q1 h6 ll1 q2 h7 ll2 q3 h8 ll3 lsh h9 F9 N9 ll4 t9
  obtain ⟨q, h, wd, t, u, hI, hq, hs⟩ := shapes_at (c := ns3.getD (Int.toNat 1) 0) N9 (by k_mem) (by k_mem) (by k_mem) (by k_mem)
  k_steps
  rename_i i4 i5 o' d' i6 F8 N8
  subst hrest
  refine next lc vs3 ns3 nc h wd t u o' _ _ _ _ _ hs hG1 F8 N8 (fun p hp hn => ?_) ?_ d' rfl rfl ?_ hi3 h3
  · exact mem_updL_ne (by repeat (first | exact K1.mem0 hp | apply List.mem_cons_of_mem)) (by simpa using hn)
  · exact mem_updL_self (by repeat (first | exact hc1' | apply List.mem_cons_of_mem))
  · exact mem_updL_ne (by repeat (first | exact hlc | apply List.mem_cons_of_mem)) hne
end
section
variable {w : World} {p : PySem.Program} {loose : List Str} {mean : ExcName → Option Value} {mg mb : Str → Option Value} {L a : Addr} {cd : Value} {h₀ : Heap} {m : Str → Option Value} {s : Shared} {Q : Flow → Shared → Prop} {E : Value → Shared → Prop} {nw : Led}
set_option maxHeartbeats 2000000 in
theorem law_s2 (B : Below callerA h₀ [] h₀) (F : Fr h₀ L s.heap m) (X : (hd.heap_39 w.params).In h₀) (N : News h₀ L s.heap nw) (T : Top p loose mean mg mb h₀) (X24 : h₀.get? 24 = some (set24 w.params))
   {lc : Addr} {vs3 : List Value} {ns3 : List Int} {nc h wd : Nat} {o1 o2 o3 : Obj} {t u : Tok} (hs : (h, wd) ∈ shapes) (hc1 : (L + 1, o1) ∈ nw) (hd1 : o1.data = .cell (some (.int (h : Int) t))) (hc2 : (L + 1 + 1, o2) ∈ nw) (hd2 : o2.data = .cell none) (hc3 : (L + 1 + 1 + 1, o3) ∈ nw) (hd3 : o3.data = .cell none)
   (hmw : m (Str.ofString "wide") = some (.int (wd : Int) u)) (hmc : m (Str.ofString "cells") = some (.ref lc)) (hlc : (lc, listOf vs3.toArray nc) ∈ nw) (hi3 : IntsAre vs3 ns3) (h3 : ns3.length = 3)
   (next : ∀ (low sz : Nat) (ws : List Nat) (cs : List Pt) lw lp vw vp nw1 nw2 o2' o3' t2 t3 m' nw' h' tk gs, LawOk h wd low sz ws cs → Bare s.gens gs → Fr h₀ L h' m' → News h₀ L h' nw' → Keep [L + 1 + 1, L + 1 + 1 + 1] nw nw' →
      (L + 1 + 1, o2') ∈ nw' → o2'.data = .cell (some (.int (low : Int) t2)) → (L + 1 + 1 + 1, o3') ∈ nw' → o3'.data = .cell (some (.ref lw)) → m' (Str.ofString "wide") = some (.int (wd : Int) u) → m' (Str.ofString "size") = some (.int (sz : Int) t3) → m' (Str.ofString "parts") = some (.ref lp) →
      (lw, listOf vw.toArray nw1) ∈ nw' → IntsAre vw (ws.map Int.ofNat) → (lp, listOf vp.toArray nw2) ∈ nw' → StrsAre vp ((partCodes cs).map mkS) →
      wpAny (model Challenge.rw_wo0004_01.row.prog w) (callerA.deeper (lawEnv L a cd)) (execs (lawBody.drop 6) (lawEnv L a cd)) Q (fun _ _ => False) { s with heap := h', toks := tk, gens := gs }) :
   wpAny (model Challenge.rw_wo0004_01.row.prog w) (callerA.deeper (lawEnv L a cd)) (execs (lawBody.drop 2) (lawEnv L a cd)) Q (fun _ _ => False) s := by
  have hb : h ≤ 5 ∧ wd ≤ 4 := shapes_small hs
  have hnz : (6 : Int) - (h : Int) ≠ 0 := by omega
  have n2 : lc ≠ L + 1 + 1 := led_ned N hlc hc2 (by rw [hd2]; intro e; cases e)
  obtain ⟨rest, hrest⟩ : ∃ r, r = lawBody.drop 6 := ⟨_, rfl⟩
  obtain ⟨sc, hsc⟩ : ∃ sc, sc = lawScope := ⟨_, rfl⟩
  obtain ⟨st2, hst2⟩ : ∃ x, x = lawAt 2 := ⟨_, rfl⟩
  obtain ⟨st3, hst3⟩ : ∃ x, x = lawAt 3 := ⟨_, rfl⟩
  obtain ⟨st4, hst4⟩ : ∃ x, x = lawAt 4 := ⟨_, rfl⟩
  obtain ⟨st5, hst5⟩ : ∃ x, x = lawAt 5 := ⟨_, rfl⟩
  rw [show lawBody.drop 2 = st2 :: st3 :: st4 :: st5 :: rest from by rw [hrest, hst2, hst3, hst4, hst5]; exact rfl]
  unfold lawEnv
  rw [← hsc]
  conv at hst2 => rhs; whnf
  conv at hst3 => rhs; whnf
  conv at hst4 => rhs; whnf
  conv at hst5 => rhs; whnf
  conv at hsc => rhs; whnf
  subst hst2 hst3 hst4 hst5 hsc
  k_steps
  rename_i t4 h4 o4 d4 t5 h5 F5 N5 t6
  unfold Hold
  k_dflt (refine' Spec.use (word_spec hs) ?sB ?sF ?sX ?sN ?sT ?s24 ?sK ?sD ?sU ?_; k_extra "x_inv"; k_whole)
  rintro v6 nw6 h6 tk6 gs6 hG6 F6 N6 ⟨K6, lw, c6, vw, ws, e6, hlw, hws, hvw⟩
  subst e6
  have hc3' : (L + 1 + 1 + 1, o3) ∈ nw6 := K6.mem0 (mem_updL_ne hc3 (by simp only [Addr]; omega))
  have hlc' : (lc, listOf vs3.toArray nc) ∈ nw6 := K6.mem0 (mem_updL_ne hlc n2)
  have hc1' : (L + 1, o1) ∈ nw6 := K6.mem0 (mem_updL_ne hc1 (by simp only [Addr]; omega))
  have n3 : lc ≠ L + 1 + 1 + 1 := led_ned N6 hlc' hc3' (by rw [hd3]; intro e; cases e)
  have n31 : L + 1 ≠ L + 1 + 1 + 1 := by simp only [Addr]; omega
  have n4 : lw ≠ L + 1 + 1 + 1 := led_ned N6 hlw hc3' (by rw [hd3]; intro e; cases e)
  k_steps
  rename_i h7 o7 F7 N7 d7 t7
  unfold Hold
  rw [show (h : Int) * (wd : Int) = ((h * wd : Nat) : Int) by simp]
  have hm10 : h * wd ≤ 10 := by
    simp only [shapes, List.mem_cons, Prod.mk.injEq, List.not_mem_nil, or_false] at hs
    rcases hs with ⟨rfl, rfl⟩ | ⟨rfl, rfl⟩ | ⟨rfl, rfl⟩ | ⟨rfl, rfl⟩ <;> decide
  k_dflt (refine' Spec.use (parts_spec hm10) ?sB ?sF ?sX ?sN ?sT ?s24 ?sK ?sD ?sU ?_; k_extra "x_inv"; k_whole)
  rintro v8 nw8 h8 tk8 gs8 hG8 F8 N8 ⟨K8, lp, c8, vp, cs, e8, hlp, hcs, hvp⟩
  subst e8
  k_steps
  rename_i h9 F9 N9
  subst hrest
  have hlh : h ≤ 5 ∧ 2 ≤ h := by
    simp only [shapes, List.mem_cons, Prod.mk.injEq, List.not_mem_nil, or_false] at hs
    omega
  generalize (ns3.getD (Int.toNat 1) 0) = c1 at *
  have hq0 : 0 ≤ Int.fmod (Int.fdiv c1 4) (6 - (h : Int)) := Int.fmod_nonneg_of_pos _ (by omega)
  have hq1 : Int.fmod (Int.fdiv c1 4) (6 - (h : Int)) < 6 - (h : Int) := Int.fmod_lt_of_pos _ (by omega)
  have hz0 : 0 ≤ Int.fmod (Int.fdiv c1 48) 3 := Int.fmod_nonneg_of_pos _ (by omega)
  have hz1 : Int.fmod (Int.fdiv c1 48) 3 < 3 := Int.fmod_lt_of_pos _ (by omega)
  obtain ⟨low, hlo⟩ : ∃ low : Nat, (65529 : Int) + Int.fmod (Int.fdiv c1 4) (6 - (h : Int)) = (low : Int) := ⟨((65529 : Int) + Int.fmod (Int.fdiv c1 4) (6 - (h : Int))).toNat, by omega⟩
  obtain ⟨sz, hsz⟩ : ∃ sz : Nat, Int.fmod (Int.fdiv c1 48) 3 = (sz : Int) := ⟨(Int.fmod (Int.fdiv c1 48) 3).toNat, by omega⟩
  rw [hlo] at d4
  have hok : LawOk h wd low sz ws cs := ⟨hs, by omega, by omega, by omega, hws, hcs⟩
  have hne1 : ∀ p ∈ nw, p.1 ≠ L + 1 + 1 → p.1 ≠ L + 1 + 1 + 1 → p ∈ nw8 := fun p hp e1 e2 => K8.mem0 (mem_updL_ne (K6.mem0 (mem_updL_ne hp e1)) e2)
  have h23 : L + 1 + 1 ≠ L + 1 + 1 + 1 := by simp only [Addr]; omega
  refine next low sz ws cs lw lp vw vp c6 c8 o4 o7 _ ?t3 _ _ _ _ _ hok ?hb F9 N9 (fun p hp hn => ?hk) ?c2 d4 ?c3 d7 ?wd ?sz rfl ?lw hvw hlp hvp
  case sz => rw [← hsz]; exact rfl
  case wd => exact hmw
  case hb => exact Bare.trans (by exact hG6) (by exact hG8)
  case hk => exact hne1 p hp (fun e => hn (by simp [e])) (fun e => hn (by simp [e]))
  case c2 => exact K8.mem0 (mem_updL_ne (K6.mem0 (mem_updL_self hc2)) h23)
  case c3 => exact K8.mem0 (mem_updL_self hc3')
  case lw => exact K8.mem0 (mem_updL_ne hlw n4)
end
section
open Lx
/-! what the texts are: plain laws of split, capitalize, upper, lower on the law's own text -/
def lowC (c : Nat) : Nat := if 65 ≤ c ∧ c ≤ 90 then c + 32 else c
def upC (c : Nat) : Nat := if 97 ≤ c ∧ c ≤ 122 then c - 32 else c
def goodL : List Nat := [65, 66, 67, 68, 69, 70, 71, 72, 73, 74, 97, 98, 99, 100, 101, 102, 103, 104, 105, 106, 65528, 65529, 65530, 65531, 65532, 65533, 65534]
theorem good_c : ∀ c ∈ goodL, c < 65536 ∧ Unicode.lowerOf c = [lowC c] ∧ Unicode.upperOf c = [upC c] ∧ Unicode.titleOf c = [upC c] ∧ (c == 0x3A3) = false := by decide +kernel
theorem placed_one (l : List Nat) (f : Nat → Nat → List Nat) (g : Nat → Nat → Nat) (h : ∀ i c, l[i]? = some c → f i c = [g i c]) : placed (mkS l) f = (l.mapIdx g).toArray := by
  apply Array.toList_inj.mp
  show ((mkS l).cps.mapIdx fun i c => (f i c).toArray).flatten.toList = _
  rw [Array.toList_flatten]
  have e : (((mkS l).cps.mapIdx fun i c => (f i c).toArray).toList.map Array.toList) = l.mapIdx fun i c => [g i c] := by
    refine List.ext_getElem (by simp) fun i h1 h2 => ?_
    have hi : i < l.length := by simpa using h2
    simp only [Array.toList_mapIdx, List.getElem_map, List.getElem_mapIdx]
    exact h i _ (List.getElem?_eq_getElem hi)
  rw [e]
  have e2 : ∀ (k : List Nat) (g : Nat → Nat → Nat), (k.mapIdx fun i c => [g i c]).flatten = k.mapIdx g := by
    intro k
    induction k with
    | nil => intro g; rfl
    | cons a r ih => intro g; rw [List.mapIdx_cons, List.mapIdx_cons, List.flatten_cons, ih fun i c => g (i + 1) c]; rfl
  rw [e2]
theorem mapIdx_const (l : List Nat) (g : Nat → Nat) : l.mapIdx (fun _ c => g c) = l.map g := by
  refine List.ext_getElem (by simp) fun i h1 h2 => by simp
theorem lowerAt_good (l : List Nat) (hl : ∀ c ∈ l, c ∈ goodL) (i c : Nat) (h : l[i]? = some c) : Unicode.lowerAt (mkS l).cps i = [lowC c] := by
  unfold Unicode.lowerAt
  rw [show (mkS l).cps[i]? = some c by simpa using h]
  have hg := good_c c (hl c (List.mem_of_getElem? h))
  dsimp only
  rw [hg.2.2.2.2]
  simpa using hg.2.1
theorem lower_good (l : List Nat) (hl : ∀ c ∈ l, c ∈ goodL) : Txt.lower (mkS l) = mkS (l.map lowC) := by
  unfold Txt.lower
  rw [placed_one l _ (fun _ c => lowC c) fun i c h => lowerAt_good l hl i c h, mapIdx_const]
theorem upper_good (l : List Nat) (hl : ∀ c ∈ l, c ∈ goodL) : Txt.upper (mkS l) = mkS (l.map upC) := by
  unfold Txt.upper
  rw [placed_one l _ (fun _ c => upC c) fun i c h => (good_c c (hl c (List.mem_of_getElem? h))).2.2.1, mapIdx_const]
def capP : List Nat → List Nat
  | [] => []
  | x :: r => upC x :: r.map lowC
theorem capP_len (l : List Nat) : (capP l).length = l.length := by cases l <;> simp [capP]
theorem cap_good (l : List Nat) (hl : ∀ c ∈ l, c ∈ goodL) : Txt.capitalize (mkS l) = mkS (capP l) := by
  unfold Txt.capitalize
  cases l with
  | nil => rfl
  | cons x r =>
    rw [if_neg (by simp [Str.length])]
    unfold Txt.capitalized
    rw [placed_one (x :: r) _ (fun i c => if i = 0 then upC c else lowC c) fun i c h => ?_]
    · rw [List.mapIdx_cons]
      congr 1
      congr 1
      show upC x :: _ = upC x :: _
      congr 1
      have e : (fun (i : Nat) (c : Nat) => if i + 1 = 0 then upC c else lowC c) = fun _ c => lowC c := by funext i c; simp
      rw [e, mapIdx_const]
    · by_cases e : i = 0
      · subst e
        simpa using (good_c c (hl c (List.mem_of_getElem? h))).2.2.2.1
      · rw [if_neg (by simpa using e), if_neg e]
        exact lowerAt_good (x :: r) hl i c h
/-! split by one sign -/
def splitC (c : Nat) : List Nat → List (List Nat)
  | [] => [[]]
  | x :: r => if x = c then [] :: splitC c r else match splitC c r with
    | p :: ps => (x :: p) :: ps
    | [] => [[x]]
theorem splitC_ne (c : Nat) : ∀ l, ∃ p ps, splitC c l = p :: ps
  | [] => ⟨[], [], rfl⟩
  | x :: r => by
    obtain ⟨p, ps, e⟩ := splitC_ne c r
    unfold splitC
    split
    · exact ⟨_, _, rfl⟩
    · rw [e]; exact ⟨_, _, rfl⟩
theorem splitC_mem (c : Nat) : ∀ (l : List Nat) (p : List Nat), p ∈ splitC c l → (∀ x ∈ p, x ∈ l) ∧ p.length ≤ l.length
  | [], p, hp => by
    obtain rfl : p = [] := by simpa [splitC] using hp
    exact ⟨fun x hx => (nomatch hx), Nat.le_refl _⟩
  | y :: r, p, hp => by
    unfold splitC at hp
    have ih := splitC_mem c r
    by_cases e : y = c
    · rw [if_pos e] at hp
      rcases List.mem_cons.mp hp with rfl | hp
      · exact ⟨fun x hx => (nomatch hx), Nat.zero_le _⟩
      · exact ⟨fun x hx => List.mem_cons_of_mem _ ((ih p hp).1 x hx), Nat.le_succ_of_le (ih p hp).2⟩
    · rw [if_neg e] at hp
      obtain ⟨q, qs, eq⟩ := splitC_ne c r
      rw [eq] at hp ih
      rcases List.mem_cons.mp hp with rfl | hp
      · have h1 := ih q (List.mem_cons_self ..)
        refine ⟨fun x hx => ?_, Nat.succ_le_succ h1.2⟩
        rcases List.mem_cons.mp hx with rfl | hx
        · exact List.mem_cons_self ..
        · exact List.mem_cons_of_mem _ (h1.1 x hx)
      · have h1 := ih p (List.mem_cons_of_mem _ hp)
        exact ⟨fun x hx => List.mem_cons_of_mem _ (h1.1 x hx), Nat.le_succ_of_le h1.2⟩
theorem splitC_len (c : Nat) : ∀ l : List Nat, (splitC c l).length ≤ l.length + 1
  | [] => by simp [splitC]
  | y :: r => by
    have ih := splitC_len c r
    obtain ⟨q, qs, eq⟩ := splitC_ne c r
    unfold splitC
    split
    · simp; omega
    · rw [eq] at ih ⊢; simp at ih ⊢; omega
open Builtin Builtin.Str in
theorem subAt_one (l : List Nat) (c i : Nat) : Builtin.Str.subAt (mkS l) (sgn c) i = decide (l[i]? = some c) := by
  unfold Builtin.Str.subAt
  have e : (mkS l).cps.extract i (i + (sgn c).length) = ((l.drop i).take 1).toArray := by
    show l.toArray.extract i (i + 1) = _
    simp [List.extract]
  rw [e]
  cases h : l[i]? with
  | none =>
    rw [List.drop_eq_nil_of_le (by simpa using h)]
    simp [sgn]
  | some x =>
    have hi := (List.getElem?_eq_some_iff.mp h).1
    rw [List.drop_eq_getElem_cons hi]
    have hx : l[i] = x := (List.getElem?_eq_some_iff.mp h).2
    rw [hx]
    by_cases e2 : x = c <;> simp [sgn, e2]
def spots (l : List Nat) (c a n : Nat) : List Nat := (List.range' a n).filter fun i => decide (l[i]? = some c)
theorem spots_succ (l : List Nat) (c a n : Nat) : spots l c a (n + 1) = if l[a]? = some c then a :: spots l c (a + 1) n else spots l c (a + 1) n := by
  unfold spots
  rw [List.range'_succ, List.filter_cons]
  by_cases e : l[a]? = some c <;> simp [e]
theorem occ_loop (l : List Nat) (c : Nat) : ∀ (n a : Nat) (st : Array Nat × Nat), st.1.size ≤ a → st.2 ≤ a → a + n = l.length + 1 →
    (forIn (List.range' a n) st (StrLaws.occBody (mkS l) (sgn c) l.length (l.length + 1))).run.fst.toList = st.1.toList ++ spots l c a n
  | 0, a, st, _, _, _ => by simp [spots]
  | n + 1, a, st, h1, h2, h3 => by
    rw [List.range'_succ, List.forIn_cons, spots_succ]
    unfold StrLaws.occBody
    rw [subAt_one]
    by_cases e : l[a]? = some c
    · have ha : a < l.length := (List.getElem?_eq_some_iff.mp e).1
      have hc : ((st.fst.size < l.length + 1 ∧ st.snd ≤ a) ∧ a + (sgn c).length ≤ l.length) ∧ decide (l[a]? = some c) = true := ⟨⟨⟨by omega, h2⟩, by show a + 1 ≤ _; omega⟩, decide_eq_true e⟩
      rw [if_pos hc, if_pos e]
      have ih := occ_loop l c n (a + 1) (st.fst.push a, a + 1) (by simp; omega) (Nat.le_refl _) (by omega)
      refine ih.trans ?_
      simp
    · rw [if_neg (fun h => e (of_decide_eq_true h.2)), if_neg e]
      exact occ_loop l c n (a + 1) st (by omega) (by omega) (by omega)
theorem occ_one (l : List Nat) (c : Nat) : Builtin.Str.occurrences (mkS l) (sgn c) 0 l.length (l.length + 1) = spots l c 0 (l.length + 1) := by
  rw [StrLaws.occ_eq]
  exact occ_loop l c (l.length + 1) 0 (#[], 0) (Nat.le_refl _) (Nat.le_refl _) (by omega)
theorem sub_mkS (l : List Nat) (a b : Nat) : Builtin.Str.strSub (mkS l) a b = mkS ((l.drop a).take (b - a)) := by
  show (⟨l.toArray.extract a b⟩ : Str) = _
  simp [List.extract]
theorem parts_split (l : List Nat) (c : Nat) : ∀ (n a j : Nat), a ≤ j → j + n = l.length → ∃ p ps, splitC c (l.drop j) = p :: ps ∧
    StrLaws.partsFrom (mkS l) 1 a (spots l c j (n + 1)) = mkS ((l.drop a).take (j - a) ++ p) :: ps.map mkS
  | 0, a, j, h1, h2 => by
    rw [List.drop_eq_nil_of_le (show l.length ≤ j by omega)]
    refine ⟨[], [], rfl, ?_⟩
    rw [spots_succ, if_neg (by rw [List.getElem?_eq_none (by omega)]; simp)]
    show [Builtin.Str.strSub (mkS l) a (mkS l).length] = _
    rw [sub_mkS]
    have e : (mkS l).length = j := by show l.toArray.size = j; simp; omega
    rw [e]
    simp
  | n + 1, a, j, h1, h2 => by
    have hj : j < l.length := by omega
    rw [List.drop_eq_getElem_cons hj, spots_succ, List.getElem?_eq_getElem hj]
    by_cases e : l[j] = c
    · rw [if_pos (by rw [e])]
      obtain ⟨p, ps, e1, e2⟩ := parts_split l c n (j + 1) (j + 1) (Nat.le_refl _) (by omega)
      refine ⟨[], p :: ps, by unfold splitC; rw [if_pos e, e1], ?_⟩
      show Builtin.Str.strSub (mkS l) a j :: StrLaws.partsFrom (mkS l) 1 (j + 1) _ = _
      rw [e2, sub_mkS]
      simp
    · rw [if_neg (by simpa using e)]
      obtain ⟨p, ps, e1, e2⟩ := parts_split l c n a (j + 1) (by omega) (by omega)
      refine ⟨l[j] :: p, ps, by unfold splitC; rw [if_neg e, e1], ?_⟩
      rw [e2]
      congr 2
      rw [show j + 1 - a = (j - a) + 1 by omega, List.take_add_one, List.getElem?_drop, show a + (j - a) = j by omega, List.getElem?_eq_getElem hj]
      simp
theorem split_one (l : List Nat) (c : Nat) (hk : Builtin.Str.strKind (mkS l) = 2) (hk2 : Builtin.Str.strKind (sgn c) = 2) (hl : 1 ≤ l.length) : Txt.split (mkS l) (sgn c) = (splitC c l).map mkS := by
  unfold Txt.split
  have hlen : (mkS l).length = l.length := by show l.toArray.size = _; simp
  have hs : (sgn c).length = 1 := rfl
  rw [hk, hk2, hlen, hs, if_neg (by rw [decide_eq_false (show ¬ l.length < 1 by omega), decide_eq_false (show ¬ 2 < 2 by omega)]; decide), occ_one]
  obtain ⟨p, ps, e1, e2⟩ := parts_split l c l.length 0 0 (Nat.le_refl _) (by omega)
  rw [List.drop_zero] at e1
  have e3 : StrLaws.partsFrom (mkS l) 1 0 (spots l c 0 (l.length + 1)) = (splitC c l).map mkS := by rw [e2, e1]; simp
  cases h : spots l c 0 (l.length + 1) with
  | nil =>
    simp only [List.isEmpty_nil, if_true]
    rw [← e3, h]
    show [mkS l] = [Builtin.Str.strSub (mkS l) 0 (mkS l).length]
    rw [sub_mkS, hlen]
    simp
  | cons a r =>
    rw [if_neg (by simp), StrLaws.partsBetween_eq, ← h, e3]
end
section
open Lx
/-! what capwords does to the law's text -/
def joinC (c : Nat) : List (List Nat) → List Nat
  | [] => []
  | [p] => p
  | p :: q :: r => p ++ c :: joinC c (q :: r)
theorem joinC_cons (c y : Nat) (q : List Nat) (r : List (List Nat)) : joinC c ((y :: q) :: r) = y :: joinC c (q :: r) := by
  cases r <;> simp [joinC]
theorem mkS_app (a b : List Nat) : mkS a ++ mkS b = mkS (a ++ b) := by
  show (⟨a.toArray ++ b.toArray⟩ : Str) = _
  simp
theorem join_sgn (c : Nat) : ∀ l : List (List Nat), Txt.join (sgn c) (l.map mkS) = mkS (joinC c l) := by
  intro l
  have h : ∀ l : List (List Nat), Str.join (sgn c) (l.map mkS) = mkS (joinC c l) := by
    intro l
    induction l with
    | nil => rfl
    | cons a r ih =>
      cases r with
      | nil => rfl
      | cons b r =>
        show mkS a ++ sgn c ++ Str.join (sgn c) ((b :: r).map mkS) = _
        rw [ih, show sgn c = mkS [c] from rfl, mkS_app, mkS_app]
        simp [joinC]
  show Builtin.Str.glued (sgn c) (l.map mkS) = _
  rw [StrLaws.glued_eq_join, h]
def capL (c : Nat) : Bool → List Nat → List Nat
  | _, [] => []
  | st, x :: r => if x = c then c :: capL c true r else (if st = true then upC x else lowC x) :: capL c false r
def capSt : Bool → List Nat → List Nat
  | _, [] => []
  | st, x :: r => (if st = true then upC x else lowC x) :: r.map lowC
theorem capSt_true : ∀ l, capSt true l = capP l
  | [] => rfl
  | _ :: _ => rfl
theorem capSt_false : ∀ l, capSt false l = l.map lowC
  | [] => rfl
  | _ :: _ => rfl
theorem cap_split (c : Nat) : ∀ (l : List Nat) (st : Bool) (p : List Nat) (ps : List (List Nat)), splitC c l = p :: ps → joinC c (capSt st p :: ps.map capP) = capL c st l
  | [], st, p, ps, h => by
    simp only [splitC, List.cons.injEq] at h
    obtain ⟨rfl, rfl⟩ := h
    rfl
  | x :: r, st, p, ps, h => by
    obtain ⟨q, qs, eq⟩ := splitC_ne c r
    unfold splitC at h
    unfold capL
    by_cases e : x = c
    · rw [if_pos e, eq] at h
      cases h
      rw [if_pos e, ← cap_split c r true q qs eq, capSt_true]
      rfl
    · rw [if_neg e, eq] at h
      simp only [List.cons.injEq] at h
      obtain ⟨hp, hps⟩ := h
      subst hp hps
      rw [if_neg e, ← cap_split c r false q qs eq, capSt_false]
      show joinC c (((if st = true then upC x else lowC x) :: q.map lowC) :: _) = _
      rw [joinC_cons]
theorem capS_text (l : List Nat) (c : Nat) (hg : ∀ x ∈ l, x ∈ goodL) (hk : Builtin.Str.strKind (mkS l) = 2) (hk2 : Builtin.Str.strKind (sgn c) = 2) (hl : 1 ≤ l.length) : capS (mkS l) (sgn c) = mkS (capL c true l) := by
  unfold capS
  rw [split_one l c hk hk2 hl, List.map_map]
  have e : (splitC c l).map (Txt.capitalize ∘ mkS) = ((splitC c l).map capP).map mkS := by
    rw [List.map_map]
    refine List.map_congr_left fun p hp => ?_
    exact cap_good p fun x hx => hg x ((splitC_mem c l p hp).1 x hx)
  rw [e, join_sgn]
  obtain ⟨p, ps, ep⟩ := splitC_ne c l
  rw [← cap_split c l true p ps ep, capSt_true, ep]
  rfl
theorem capL_len (c : Nat) : ∀ (l : List Nat) (st : Bool), (capL c st l).length = l.length
  | [], _ => rfl
  | x :: r, st => by
    unfold capL
    split <;> simp [capL_len c r]
/-! the text's signs -/
def gP (b : Bool) : List Nat → List Nat
  | [] => []
  | x :: t => (if b = true then upC x else lowC x) :: t
/-- a letter's part: a letter, then signs that no case changes -/
structure PartIs (p : List Nat) (k : Nat) : Prop where
  ex : ∃ x t, p = x :: t ∧ (x = 65 + k ∨ x = 97 + k) ∧ (∀ y ∈ t, y = 65528 ∨ y = 65534) ∧ t.length ≤ 1
theorem tails_is : ∀ i, i < 3 → ∀ y ∈ tails.getD i [], y = 65528 ∨ y = 65534 := by decide
theorem tails_len : ∀ i, i < 3 → (tails.getD i []).length ≤ 1 := by decide
theorem partCodes_get {cs : List Pt} {k : Nat} {p : List Nat} (h : (partCodes cs)[k]? = some p) : PartIs p k := by
  unfold partCodes at h
  rw [List.getElem?_mapIdx] at h
  cases e : cs[k]? with
  | none => rw [e] at h; cases h
  | some c =>
    rw [e] at h
    obtain rfl := (Option.some.inj h).symm
    refine ⟨letter c.up k, tails.getD c.tl [], rfl, ?_, tails_is _ c.ok, tails_len _ c.ok⟩
    unfold letter
    cases c.up
    · exact .inr rfl
    · exact .inl rfl
theorem low_sign {x : Nat} (h : 65528 ≤ x) : lowC x = x := by unfold lowC; rw [if_neg (by omega)]
theorem up_sign {x : Nat} (h : 65528 ≤ x) : upC x = x := by unfold upC; rw [if_neg (by omega)]
theorem map_same (f : Nat → Nat) : ∀ t : List Nat, (∀ y ∈ t, f y = y) → t.map f = t
  | [], _ => rfl
  | y :: t, h => by rw [List.map_cons, h y (List.mem_cons_self ..), map_same f t fun z hz => h z (List.mem_cons_of_mem _ hz)]
theorem part_up {p : List Nat} {k : Nat} (h : PartIs p k) (hk : k < 10) : p.map upC = gP true p := by
  obtain ⟨x, t, rfl, _, ht, _⟩ := h.ex
  show upC x :: t.map upC = upC x :: t
  rw [map_same upC t (fun y hy => up_sign (by rcases ht y hy with rfl | rfl <;> omega))]
theorem part_low {p : List Nat} {k : Nat} (h : PartIs p k) (hk : k < 10) : p.map lowC = gP false p := by
  obtain ⟨x, t, rfl, _, ht, _⟩ := h.ex
  show lowC x :: t.map lowC = lowC x :: t
  rw [map_same lowC t (fun y hy => low_sign (by rcases ht y hy with rfl | rfl <;> omega))]
theorem part_good {p : List Nat} {k : Nat} (h : PartIs p k) (hk : k < 10) : ∀ y ∈ p, y ∈ goodL := by
  obtain ⟨x, t, rfl, hx, ht, _⟩ := h.ex
  intro y hy
  rcases List.mem_cons.mp hy with rfl | hy
  · have : ∀ k, k < 10 → 65 + k ∈ goodL ∧ 97 + k ∈ goodL := by decide
    rcases hx with rfl | rfl
    · exact (this k hk).1
    · exact (this k hk).2
  · rcases ht y hy with rfl | rfl <;> decide
/-- the text, cut at its letters: what is known of the words and the parts -/
structure Seg (low : Nat) (ws : List Nat) (ps : List (List Nat)) (off : Nat) : Prop where
  part : ∀ k p, ps[k]? = some p → PartIs p (off + k)
  few : off + ps.length ≤ 10
  lo : 65529 ≤ low
  hi : ∀ r ∈ ws, low + r ≤ 65533
theorem Seg.tail {low : Nat} {r : Nat} {p : List Nat} {ws : List Nat} {ps : List (List Nat)} {off : Nat} (S : Seg low (r :: ws) (p :: ps) off) : Seg low ws ps (off + 1) :=
  ⟨fun k q h => by have := S.part (k + 1) q (by simpa using h); rw [show off + 1 + k = off + (k + 1) by omega]; exact this, by have := S.few; simp at this; omega, S.lo, fun r hr => S.hi r (List.mem_cons_of_mem _ hr)⟩
theorem Seg.head {low : Nat} {r : Nat} {p : List Nat} {ws : List Nat} {ps : List (List Nat)} {off : Nat} (S : Seg low (r :: ws) (p :: ps) off) : PartIs p off ∧ off < 10 ∧ 65529 ≤ low + r ∧ low + r ≤ 65533 :=
  ⟨S.part 0 p rfl, by have := S.few; simp at this; omega, by have := S.lo; omega, S.hi r (List.mem_cons_self ..)⟩
theorem capL_signs (c : Nat) : ∀ (t rest : List Nat), (∀ y ∈ t, y ≠ c ∧ 65528 ≤ y) → capL c false (t ++ rest) = t ++ capL c false rest
  | [], rest, _ => rfl
  | y :: t, rest, h => by
    obtain ⟨h1, h2⟩ := h y (List.mem_cons_self ..)
    show capL c false (y :: (t ++ rest)) = y :: (t ++ capL c false rest)
    rw [capL, if_neg h1, if_neg (by simp), low_sign h2, capL_signs c t rest fun z hz => h z (List.mem_cons_of_mem _ hz)]
theorem capL_text {low c : Nat} (hc : 65529 ≤ c ∧ c ≤ 65533) : ∀ (ws : List Nat) (ps : List (List Nat)) (off : Nat) (st : Bool), Seg low ws ps off →
    capL c st (textC low ws ps) = (List.zipWith (fun r p => (low + r) :: gP (decide (low + r = c)) p) ws ps).flatten
  | [], _, _, _, _ => by simp [textC, textL, capL]
  | _ :: _, [], _, _, _ => by simp [textC, textL, capL]
  | r :: ws, p :: ps, off, st, S => by
    obtain ⟨hp, ho, h1, h2⟩ := S.head
    obtain ⟨x, t, rfl, hx, ht, _⟩ := hp.ex
    have ih := fun st => capL_text hc ws ps (off + 1) st S.tail
    have e : textC low (r :: ws) ((x :: t) :: ps) = (low + r) :: x :: (t ++ textC low ws ps) := by simp [textC, textL]
    have hxc : x ≠ c := by rcases hx with rfl | rfl <;> omega
    have hts : ∀ y ∈ t, y ≠ c ∧ 65528 ≤ y := fun y hy => by rcases ht y hy with rfl | rfl <;> omega
    rw [e, List.zipWith_cons_cons, List.flatten_cons]
    show capL c st ((low + r) :: (x :: (t ++ textC low ws ps))) = _
    by_cases hs : low + r = c
    · rw [capL, if_pos hs, capL, if_neg hxc, if_pos rfl, capL_signs c t _ hts, ih, decide_eq_true hs, hs]
      simp [gP]
    · rw [capL, if_neg hs, capL, if_neg hxc, capL_signs c t _ hts, ih, decide_eq_false hs]
      cases st
      · simp [gP, low_sign (show 65528 ≤ low + r by omega)]
      · simp [gP, up_sign (show 65528 ≤ low + r by omega)]
end
section
open Lx
theorem join_mkS : ∀ l : List (List Nat), Txt.join eS (l.map mkS) = mkS l.flatten := by
  intro l
  have h : ∀ l : List (List Nat), Str.join eS (l.map mkS) = mkS l.flatten := by
    intro l
    induction l with
    | nil => rfl
    | cons a r ih =>
      cases r with
      | nil => show mkS a = _; simp
      | cons b r =>
        show mkS a ++ eS ++ Str.join eS ((b :: r).map mkS) = _
        rw [ih]
        have e : mkS a ++ eS = mkS a := by
          rw [show eS = mkS [] by decide +kernel, mkS_app, List.append_nil]
        rw [e, mkS_app]
        simp
  show Builtin.Str.glued eS (l.map mkS) = _
  rw [StrLaws.glued_eq_join, h]
theorem sgn_app (c : Nat) (l : List Nat) : sgn c ++ mkS l = mkS (c :: l) := mkS_app [c] l
theorem mk_sum : ∀ L : List (List Nat), ((L.map mkS).map (·.length)).sum = L.flatten.length
  | [] => rfl
  | a :: L => by
    simp only [List.map_cons, List.sum_cons, List.flatten_cons, List.length_append]
    rw [mk_sum L]
    show a.toArray.size + _ = _
    simp
theorem fit_mk (L : List (List Nat)) (h : L.flatten.length ≤ 1000) : JoinFit eS (L.map mkS) := by
  unfold JoinFit
  rw [mk_sum, show eS.length = 0 by decide +kernel]
  omega
/-! the law's words, case by case -/
theorem LawOk.cases {h wd low sz : Nat} {ws : List Nat} {cs : List Pt} (hok : LawOk h wd low sz ws cs) {P : Nat → Nat → Nat → List Nat → Prop}
    (a0 : ∀ ws ∈ wGen 3 3 9, P 3 3 65529 ws) (a1 : ∀ ws ∈ wGen 3 3 9, P 3 3 65530 ws) (a2 : ∀ ws ∈ wGen 3 3 9, P 3 3 65531 ws) (b0 : ∀ ws ∈ wGen 4 2 8, P 4 2 65529 ws) (b1 : ∀ ws ∈ wGen 4 2 8, P 4 2 65530 ws)
    (c0 : ∀ ws ∈ wGen 2 4 8, P 2 4 65529 ws) (c1 : ∀ ws ∈ wGen 2 4 8, P 2 4 65530 ws) (c2 : ∀ ws ∈ wGen 2 4 8, P 2 4 65531 ws) (c3 : ∀ ws ∈ wGen 2 4 8, P 2 4 65532 ws) (d0 : ∀ ws ∈ wGen 5 2 10, P 5 2 65529 ws) : P h wd low ws := by
  have hs := hok.shape
  have hw := hok.word
  have h1 := hok.lo
  have h2 := hok.hi
  simp only [shapes, List.mem_cons, Prod.mk.injEq, List.not_mem_nil, or_false] at hs
  rcases hs with ⟨rfl, rfl⟩ | ⟨rfl, rfl⟩ | ⟨rfl, rfl⟩ | ⟨rfl, rfl⟩
  · obtain rfl | rfl | rfl : low = 65529 ∨ low = 65530 ∨ low = 65531 := by omega
    · exact a0 ws hw
    · exact a1 ws hw
    · exact a2 ws hw
  · obtain rfl | rfl : low = 65529 ∨ low = 65530 := by omega
    · exact b0 ws hw
    · exact b1 ws hw
  · obtain rfl | rfl | rfl | rfl : low = 65529 ∨ low = 65530 ∨ low = 65531 ∨ low = 65532 := by omega
    · exact c0 ws hw
    · exact c1 ws hw
    · exact c2 ws hw
    · exact c3 ws hw
  · obtain rfl : low = 65529 := by omega
    exact d0 ws hw
theorem wGen_lt {h wd : Nat} : ∀ {n : Nat} {w : List Nat}, w ∈ wGen h wd n → ∀ r ∈ w, r < h
  | 0, w, hw, r, hr => by simp [wGen] at hw; subst hw; cases hr
  | n + 1, w, hw, r, hr => by
    obtain ⟨v, hv, hw⟩ := List.mem_flatMap.mp hw
    obtain ⟨q, hq, rfl⟩ := List.mem_map.mp hw
    rcases List.mem_append.mp hr with hr | hr
    · exact wGen_lt hv r hr
    · rw [List.mem_singleton.mp hr]
      exact List.mem_range.mp (List.mem_filter.mp hq).1
theorem row_lt {h wd low sz : Nat} {ws : List Nat} {cs : List Pt} (hok : LawOk h wd low sz ws cs) : ∀ r ∈ ws, r < h := wGen_lt hok.word
theorem partCodes_len (cs : List Pt) : (partCodes cs).length = cs.length := by simp [partCodes]
theorem LawOk.much {h wd low sz : Nat} {ws : List Nat} {cs : List Pt} (hok : LawOk h wd low sz ws cs) : 4 ≤ h * wd ∧ h * wd ≤ 10 := by
  have := hok.shape
  simp only [shapes, List.mem_cons, Prod.mk.injEq, List.not_mem_nil, or_false] at this
  rcases this with ⟨rfl, rfl⟩ | ⟨rfl, rfl⟩ | ⟨rfl, rfl⟩ | ⟨rfl, rfl⟩ <;> decide
theorem LawOk.seg {h wd low sz : Nat} {ws : List Nat} {cs : List Pt} (hok : LawOk h wd low sz ws cs) : Seg low ws (partCodes cs) 0 :=
  ⟨fun k p e => by rw [Nat.zero_add]; exact partCodes_get e, by rw [partCodes_len, hok.parts]; have := hok.much; omega, hok.lo, fun r hr => by have := row_lt hok r hr; have := hok.hi; omega⟩
theorem LawOk.lens {h wd low sz : Nat} {ws : List Nat} {cs : List Pt} (hok : LawOk h wd low sz ws cs) : ws.length = h * wd ∧ (partCodes cs).length = h * wd := ⟨wGen_len hok.word, by rw [partCodes_len, hok.parts]⟩
theorem text_good {low : Nat} : ∀ (ws : List Nat) (ps : List (List Nat)) (off : Nat), Seg low ws ps off → ∀ x ∈ textC low ws ps, x ∈ goodL
  | [], _, _, _, x, hx => by simp [textC, textL] at hx
  | _ :: _, [], _, _, x, hx => by simp [textC, textL] at hx
  | r :: ws, p :: ps, off, S, x, hx => by
    obtain ⟨hp, ho, h1, h2⟩ := S.head
    have e : textC low (r :: ws) (p :: ps) = (low + r) :: (p ++ textC low ws ps) := by simp [textC, textL]
    rw [e] at hx
    rcases List.mem_cons.mp hx with rfl | hx
    · have : low + r = 65529 ∨ low + r = 65530 ∨ low + r = 65531 ∨ low + r = 65532 ∨ low + r = 65533 := by omega
      rcases this with e | e | e | e | e <;> rw [e] <;> decide
    · rcases List.mem_append.mp hx with hx | hx
      · exact part_good hp ho x hx
      · exact text_good ws ps (off + 1) S.tail x hx
theorem text_len3 {low : Nat} : ∀ (ws : List Nat) (ps : List (List Nat)) (off : Nat), Seg low ws ps off → (textC low ws ps).length ≤ 3 * ps.length
  | [], _, _, _ => by simp [textC, textL]
  | _ :: _, [], _, _ => by simp [textC, textL]
  | r :: ws, p :: ps, off, S => by
    obtain ⟨x, t, rfl, _, _, ht⟩ := S.head.1.ex
    have e : textC low (r :: ws) ((x :: t) :: ps) = (low + r) :: x :: (t ++ textC low ws ps) := by simp [textC, textL]
    have ih := text_len3 ws ps (off + 1) S.tail
    rw [e]
    simp only [List.length_cons, List.length_append]
    omega
theorem textC_len {h wd low sz : Nat} {ws : List Nat} {cs : List Pt} (hok : LawOk h wd low sz ws cs) : (textC low ws (partCodes cs)).length ≤ 100 := by
  have h1 := text_len3 ws (partCodes cs) 0 hok.seg
  have h2 := hok.lens.2
  have h3 := hok.much
  omega
theorem textC_lt {h wd low sz : Nat} {ws : List Nat} {cs : List Pt} (hok : LawOk h wd low sz ws cs) : ∀ c ∈ textC low ws (partCodes cs), c < 1114112 := fun c hc => by
  have := (good_c c (text_good ws _ 0 hok.seg c hc)).1
  omega
theorem text_fit {h wd low sz : Nat} {ws : List Nat} {cs : List Pt} (hok : LawOk h wd low sz ws cs) : JoinFit eS ((textL low ws (partCodes cs)).map mkS) := fit_mk _ (by have := textC_len hok; unfold textC at this; omega)
theorem not_c6 {x : Nat} (h : x ≤ 65528 ∨ x = 65534) (ms : List Nat) : marksAdd ms x = ms := by
  unfold marksAdd
  have : inC6 x = false := by unfold inC6; exact decide_eq_false (by omega)
  rw [if_neg (by rw [this]; simp)]
theorem marks_fold {low : Nat} : ∀ (ws : List Nat) (ps : List (List Nat)) (off : Nat) (ms : List Nat), Seg low ws ps off → ps.length = ws.length → (textC low ws ps).foldl marksAdd ms = (ws.map (low + ·)).foldl marksAdd ms
  | [], _, _, _, _, _ => by simp [textC, textL]
  | _ :: _, [], _, _, _, h => by simp at h
  | r :: ws, p :: ps, off, ms, S, h => by
    obtain ⟨hp, ho, _, _⟩ := S.head
    obtain ⟨x, t, rfl, hx, ht, _⟩ := hp.ex
    have e : textC low (r :: ws) ((x :: t) :: ps) = (low + r) :: x :: (t ++ textC low ws ps) := by simp [textC, textL]
    have ht2 : ∀ (t : List Nat) (ms : List Nat), (∀ y ∈ t, y = 65528 ∨ y = 65534) → t.foldl marksAdd ms = ms := by
      intro t
      induction t with
      | nil => intro ms _; rfl
      | cons y t ih => intro ms h; rw [List.foldl_cons, not_c6 (by rcases h y (List.mem_cons_self ..) with rfl | rfl <;> omega), ih ms fun z hz => h z (List.mem_cons_of_mem _ hz)]
    rw [e, List.foldl_cons, List.foldl_cons, not_c6 (by rcases hx with rfl | rfl <;> omega), List.foldl_append, ht2 t _ ht, marks_fold ws ps (off + 1) _ S.tail (by simpa using h)]
    rfl
theorem mk_a0 : ∀ ws ∈ wGen 3 3 9, (ws.map (65529 + ·)).foldl marksAdd [] = (List.range 3).map (65529 + ·) := by decide +kernel
theorem mk_a1 : ∀ ws ∈ wGen 3 3 9, (ws.map (65530 + ·)).foldl marksAdd [] = (List.range 3).map (65530 + ·) := by decide +kernel
theorem mk_a2 : ∀ ws ∈ wGen 3 3 9, (ws.map (65531 + ·)).foldl marksAdd [] = (List.range 3).map (65531 + ·) := by decide +kernel
theorem mk_b0 : ∀ ws ∈ wGen 4 2 8, (ws.map (65529 + ·)).foldl marksAdd [] = (List.range 4).map (65529 + ·) := by decide +kernel
theorem mk_b1 : ∀ ws ∈ wGen 4 2 8, (ws.map (65530 + ·)).foldl marksAdd [] = (List.range 4).map (65530 + ·) := by decide +kernel
theorem mk_c0 : ∀ ws ∈ wGen 2 4 8, (ws.map (65529 + ·)).foldl marksAdd [] = (List.range 2).map (65529 + ·) := by decide +kernel
theorem mk_c1 : ∀ ws ∈ wGen 2 4 8, (ws.map (65530 + ·)).foldl marksAdd [] = (List.range 2).map (65530 + ·) := by decide +kernel
theorem mk_c2 : ∀ ws ∈ wGen 2 4 8, (ws.map (65531 + ·)).foldl marksAdd [] = (List.range 2).map (65531 + ·) := by decide +kernel
theorem mk_c3 : ∀ ws ∈ wGen 2 4 8, (ws.map (65532 + ·)).foldl marksAdd [] = (List.range 2).map (65532 + ·) := by decide +kernel
theorem mk_d0 : ∀ ws ∈ wGen 5 2 10, (ws.map (65529 + ·)).foldl marksAdd [] = (List.range 5).map (65529 + ·) := by decide +kernel
theorem text_marks {h wd low sz : Nat} {ws : List Nat} {cs : List Pt} (hok : LawOk h wd low sz ws cs) : (marksF (textC low ws (partCodes cs))).map sgn = marksL low h := by
  have h1 := hok.cases (P := fun h _ low ws => (ws.map (low + ·)).foldl marksAdd [] = (List.range h).map (low + ·)) mk_a0 mk_a1 mk_a2 mk_b0 mk_b1 mk_c0 mk_c1 mk_c2 mk_c3 mk_d0
  unfold marksF
  rw [marks_fold ws _ 0 [] hok.seg (by rw [hok.lens.1, hok.lens.2]), h1, List.map_map]
  rfl
theorem marks_ok {h wd low sz : Nat} {ws : List Nat} {cs : List Pt} (hok : LawOk h wd low sz ws cs) : ∀ y ∈ marksL low h, PyData.strOk y = true := fun y hy => by
  obtain ⟨r, hr, rfl⟩ := List.mem_map.mp hy
  have := List.mem_range.mp hr
  have := hok.hi
  simp [PyData.strOk, sgn]
  omega
theorem kind_sgn {c : Nat} (hc : 65529 ≤ c ∧ c ≤ 65533) : Builtin.Str.strKind (sgn c) = 2 := by
  unfold Builtin.Str.strKind
  rw [if_neg (by simp [sgn]; omega), if_pos (by simp [sgn]; omega)]
theorem LawOk.text {h wd low sz : Nat} {ws : List Nat} {cs : List Pt} (hok : LawOk h wd low sz ws cs) : 1 ≤ (textC low ws (partCodes cs)).length ∧ Builtin.Str.strKind (mkS (textC low ws (partCodes cs))) = 2 := by
  have hg := text_good ws _ 0 hok.seg
  have h1 := hok.much
  have hl := hok.lens
  cases hw : ws with
  | nil => rw [hw] at hl; simp at hl; omega
  | cons r ws' =>
    cases hp : partCodes cs with
    | nil => rw [hp] at hl; simp at hl; omega
    | cons p ps =>
      have e : textC low (r :: ws') (p :: ps) = (low + r) :: (p ++ textC low ws' ps) := by simp [textC, textL]
      rw [hw, hp] at hg
      have hlo := hok.lo
      refine ⟨by rw [e]; simp, ?_⟩
      unfold Builtin.Str.strKind
      rw [if_neg, if_pos]
      · simp only [mkS, Array.all_eq_true_iff_forall_mem, List.mem_toArray, decide_eq_true_eq]
        exact fun x hx => (good_c x (hg x hx)).1
      · simp only [mkS, Array.all_eq_true_iff_forall_mem, List.mem_toArray, decide_eq_true_eq]
        intro h2
        have := h2 (low + r) (by rw [e]; exact List.mem_cons_self ..)
        omega
theorem LawOk.capS {h wd low sz : Nat} {ws : List Nat} {cs : List Pt} (hok : LawOk h wd low sz ws cs) {i : Nat} (hi : i < h) : Mine.capS (mkS (textC low ws (partCodes cs))) (sgn (low + i)) = mkS (capL (low + i) true (textC low ws (partCodes cs))) := by
  have hlo := hok.lo
  have hhi := hok.hi
  exact capS_text _ _ (text_good ws _ 0 hok.seg) hok.text.2 (kind_sgn (by omega)) hok.text.1
theorem LawOk.capL {h wd low sz : Nat} {ws : List Nat} {cs : List Pt} (hok : LawOk h wd low sz ws cs) {i : Nat} (hi : i < h) : Mine.capL (low + i) true (textC low ws (partCodes cs)) = (List.zipWith (fun r p => (low + r) :: gP (decide (low + r = low + i)) p) ws (partCodes cs)).flatten := by
  have hlo := hok.lo
  have hhi := hok.hi
  exact capL_text (by omega) ws _ 0 true hok.seg
end
section
open Lx
def greatS (i : Nat) (ws : List Nat) (ps : List (List Nat)) : List Str := List.zipWith (fun r p => if r = i then Txt.upper (mkS p) else Txt.lower (mkS p)) ws ps
def greatJ (low i : Nat) (ws : List Nat) (ps : List (List Nat)) : List Str := List.zipWith (fun r g => sgn (low + r) ++ g) ws (greatS i ws ps)
theorem greatJ_eq {low i : Nat} : ∀ (ws : List Nat) (ps : List (List Nat)) (off : Nat), Seg low ws ps off → greatJ low i ws ps = (List.zipWith (fun r p => (low + r) :: gP (decide (low + r = low + i)) p) ws ps).map mkS
  | [], _, _, _ => by simp [greatJ, greatS]
  | _ :: _, [], _, _ => by simp [greatJ, greatS]
  | r :: ws, p :: ps, off, S => by
    obtain ⟨hp, ho, h1, h2⟩ := S.head
    have ih := greatJ_eq (i := i) ws ps (off + 1) S.tail
    unfold greatJ greatS at ih ⊢
    rw [List.zipWith_cons_cons, List.zipWith_cons_cons, List.zipWith_cons_cons, List.map_cons, ih]
    congr 1
    by_cases e : r = i
    · rw [if_pos e, upper_good p (part_good hp ho), part_up hp ho, sgn_app, decide_eq_true (by omega)]
    · rw [if_neg e, lower_good p (part_good hp ho), part_low hp ho, sgn_app, decide_eq_false (by omega)]
theorem cap_text {h wd low sz : Nat} {ws : List Nat} {cs : List Pt} (hok : LawOk h wd low sz ws cs) {i : Nat} (hi : i < h) : capS (mkS (textC low ws (partCodes cs))) (sgn (low + i)) = Txt.join eS (greatJ low i ws (partCodes cs)) := by
  rw [hok.capS hi, hok.capL hi, greatJ_eq ws _ 0 hok.seg, join_mkS]
theorem great_flat {h wd low sz : Nat} {ws : List Nat} {cs : List Pt} (hok : LawOk h wd low sz ws cs) (i : Nat) : (List.zipWith (fun r p => (low + r) :: gP (decide (low + r = low + i)) p) ws (partCodes cs)).flatten.length ≤ 100 := by
  have hg : ∀ (b : Bool) (p : List Nat), (gP b p).length = p.length := fun b p => by cases p <;> simp [gP]
  have h1 : ∀ (ws : List Nat) (ps : List (List Nat)), (List.zipWith (fun r p => (low + r) :: gP (decide (low + r = low + i)) p) ws ps).flatten.length = (textC low ws ps).length := by
    intro ws
    induction ws with
    | nil => intro ps; simp [textC, textL]
    | cons r ws ih =>
      intro ps
      cases ps with
      | nil => simp [textC, textL]
      | cons p ps =>
        have := ih ps
        simp only [textC, textL, List.zipWith_cons_cons, List.flatten_cons, List.length_append, List.length_cons, hg] at this ⊢
        omega
  rw [h1]
  exact textC_len hok
theorem great_fit {h wd low sz : Nat} {ws : List Nat} {cs : List Pt} (hok : LawOk h wd low sz ws cs) (i : Nat) : JoinFit eS (greatJ low i ws (partCodes cs)) := by
  rw [greatJ_eq ws _ 0 hok.seg]
  exact fit_mk _ (by have := great_flat hok i; omega)
theorem cap_ok {h wd low sz : Nat} {ws : List Nat} {cs : List Pt} (hok : LawOk h wd low sz ws cs) {i : Nat} (hi : i < h) : CapOk (mkS (textC low ws (partCodes cs))) (sgn (low + i)) := by
  have hlo := hok.lo
  have hhi := hok.hi
  have hlen := textC_len hok
  have hsz : ∀ l : List Nat, (mkS l).cps.size = l.length := fun l => by simp
  have hsp := split_one (textC low ws (partCodes cs)) (low + i) hok.text.2 (kind_sgn (by omega)) hok.text.1
  have hpl : ∀ y ∈ Txt.split (mkS (textC low ws (partCodes cs))) (sgn (low + i)), y.length ≤ 100 := fun y hy => by
    rw [hsp] at hy
    obtain ⟨p, hp, rfl⟩ := List.mem_map.mp hy
    have := (splitC_mem _ _ p hp).2
    show (mkS p).cps.size ≤ 100
    rw [hsz]; omega
  refine ⟨rfl, by rw [hsz]; omega, fun y hy => Nat.le_trans (hpl y hy) (by omega), ?_, ?_⟩
  · unfold JoinOk
    rw [StrLaws.joinTotal]
    have h1 : ((Txt.split (mkS (textC low ws (partCodes cs))) (sgn (low + i))).map Txt.capitalize).length ≤ 101 := by
      rw [List.length_map, hsp, List.length_map]
      have := splitC_len (low + i) (textC low ws (partCodes cs))
      omega
    have h2 := sum_le_mul ((((Txt.split (mkS (textC low ws (partCodes cs))) (sgn (low + i))).map Txt.capitalize)).map (·.length)) 300 (fun x hx => by
      obtain ⟨y, hy, rfl⟩ := List.mem_map.mp hx
      obtain ⟨z, hz, rfl⟩ := List.mem_map.mp hy
      have := len_capitalize z
      have := hpl z hz
      show (Txt.capitalize z).length ≤ 300
      omega)
    rw [List.length_map] at h2
    have h3 : (sgn (low + i)).length = 1 := rfl
    rw [h3]
    have h4 : (((Txt.split (mkS (textC low ws (partCodes cs))) (sgn (low + i))).map Txt.capitalize).map (·.length)).sum + ((Txt.split (mkS (textC low ws (partCodes cs))) (sgn (low + i))).map Txt.capitalize).length * 1 ≤ sizeLine := le_sizeLine (by omega)
    unfold Builtin.Str.tooLong
    simp only [gt_iff_lt, Bool.not_eq_true', decide_eq_false_iff_not, Nat.not_lt]
    exact h4
  · rw [hok.capS hi, hsz, capL_len]; omega
theorem great_len {i : Nat} {ws : List Nat} {cs : List Pt} {g : Str} (h : g ∈ greatS i ws (partCodes cs)) : g.length ≤ 100000 := by
  obtain ⟨j, hj, rfl⟩ := List.mem_iff_getElem.mp h
  simp only [greatS, List.getElem_zipWith]
  have hj2 : j < (partCodes cs).length := by simp [greatS] at hj; omega
  obtain ⟨x, t, hx, _, _, ht⟩ := (partCodes_get (List.getElem?_eq_getElem hj2)).ex
  have h2 : (mkS (partCodes cs)[j]).length ≤ 2 := by
    rw [hx]; show (x :: t).toArray.size ≤ 2; simp; omega
  split
  · have := len_upper (mkS (partCodes cs)[j]); omega
  · have := len_lower (mkS (partCodes cs)[j]); omega
/-- the row of the letters behind the r-th sign -/
def rowW (low : Nat) (ws : List Nat) (r : Nat) : List (Str × Str) := ((List.range ws.length).filter fun p => ws.getD p 0 == r).map fun p => (sgn (low + r), sgn (65 + p))
def rowsW (low h : Nat) (ws : List Nat) : List (List (Str × Str)) := (List.range h).map (rowW low ws)
theorem seg_up {low i r off : Nat} {p : List Nat} (hp : PartIs p off) (ho : off < 10) (h1 : 65529 ≤ low + r) : ((low + r) :: gP (decide (low + r = low + i)) p).filter isUp = if r = i then [65 + off] else [] := by
  obtain ⟨x, t, rfl, hx, ht, _⟩ := hp.ex
  have hn : ∀ y, (y < 65 ∨ 90 < y) → isUp y = false := fun y hy => by unfold isUp; exact decide_eq_false (by omega)
  have ht2 : t.filter isUp = [] := List.filter_eq_nil_iff.mpr fun y hy => by rw [hn y (by rcases ht y hy with rfl | rfl <;> omega)]; simp
  rw [List.filter_cons, if_neg (by rw [hn _ (by omega)]; simp)]
  by_cases e : r = i
  · rw [if_pos e, decide_eq_true (by omega)]
    have hu : upC x = 65 + off := by
      unfold upC
      rcases hx with rfl | rfl
      · rw [if_neg (by omega)]
      · rw [if_pos (by omega)]; omega
    show (upC x :: t).filter isUp = _
    rw [List.filter_cons, hu, if_pos (by unfold isUp; exact decide_eq_true (by omega)), ht2]
  · rw [if_neg e, decide_eq_false (by omega)]
    have hu : lowC x = 97 + off := by
      unfold lowC
      rcases hx with rfl | rfl
      · rw [if_pos (by omega)]; omega
      · rw [if_neg (by omega)]
    show (lowC x :: t).filter isUp = _
    rw [List.filter_cons, hu, if_neg (by rw [hn _ (by omega)]; simp), ht2]
theorem text_up {low i : Nat} : ∀ (ws : List Nat) (ps : List (List Nat)) (off : Nat), Seg low ws ps off → ps.length = ws.length →
    (List.zipWith (fun r p => (low + r) :: gP (decide (low + r = low + i)) p) ws ps).flatten.filter isUp = ((List.range' off ws.length).filter fun k => ws.getD (k - off) 0 == i).map (65 + ·)
  | [], _, _, _, _ => by simp
  | _ :: _, [], _, _, h => by simp at h
  | r :: ws, p :: ps, off, S, h => by
    obtain ⟨hp, ho, h1, h2⟩ := S.head
    have ih := text_up (i := i) ws ps (off + 1) S.tail (by simpa using h)
    rw [List.zipWith_cons_cons, List.flatten_cons, List.filter_append, seg_up hp ho h1, ih, List.length_cons, List.range'_succ, List.filter_cons]
    have e0 : (r :: ws).getD (off - off) 0 = r := by simp
    have e1 : ((List.range' (off + 1) ws.length).filter fun k => (r :: ws).getD (k - off) 0 == i) = (List.range' (off + 1) ws.length).filter fun k => ws.getD (k - (off + 1)) 0 == i := by
      refine List.filter_congr fun k hk => ?_
      have := List.mem_range'_1.mp hk
      rw [show k - off = (k - (off + 1)) + 1 by omega]
      simp
    rw [e0, e1]
    by_cases e : r = i
    · rw [if_pos e, if_pos (by rw [e]; exact beq_self_eq_true i)]; rfl
    · rw [if_neg e, if_neg (by rw [beq_iff_eq]; exact e)]; rfl
theorem row_text {h wd low sz : Nat} {ws : List Nat} {cs : List Pt} (hok : LawOk h wd low sz ws cs) {i : Nat} (hi : i < h) : rowF (mkS (textC low ws (partCodes cs))) (sgn (low + i)) 1000 = rowW low ws i := by
  unfold rowF rowW
  rw [hok.capS hi, hok.capL hi]
  have h1 := great_flat hok i
  have h2 := text_up (i := i) ws _ 0 hok.seg (by rw [hok.lens.1, hok.lens.2])
  have e : (mkS (List.zipWith (fun r p => (low + r) :: gP (decide (low + r = low + i)) p) ws (partCodes cs)).flatten).cps.toList = (List.zipWith (fun r p => (low + r) :: gP (decide (low + r = low + i)) p) ws (partCodes cs)).flatten := rfl
  rw [e, List.take_of_length_le (by omega), h2, List.map_map, List.range_eq_range']
  rfl
theorem rowW_len (low : Nat) (ws : List Nat) (r : Nat) : (rowW low ws r).length ≤ ws.length := by
  unfold rowW
  rw [List.length_map]
  exact Nat.le_trans (List.length_filter_le _ _) (by simp)
def toldS (low : Nat) (ws : List Nat) (r n : Nat) : List Str := ((List.range n).filter fun p => ws.getD p 0 == r).map fun p => sgn (low + r) ++ sgn (65 + p)
theorem toldS_succ (low : Nat) (ws : List Nat) (r n : Nat) : toldS low ws r (n + 1) = toldS low ws r n ++ (if ws.getD n 0 = r then [sgn (low + r) ++ sgn (65 + n)] else []) := by
  unfold toldS
  rw [List.range_succ, List.filter_append, List.map_append]
  congr 1
  rw [List.filter_cons, List.filter_nil]
  by_cases e : ws.getD n 0 = r
  · rw [if_pos e, if_pos (by rw [e]; exact beq_self_eq_true r)]; rfl
  · rw [if_neg e, if_neg (by rw [beq_iff_eq]; exact e)]; rfl
theorem toldS_mk (low : Nat) (ws : List Nat) (r n : Nat) : toldS low ws r n = (((List.range n).filter fun p => ws.getD p 0 == r).map fun p => [low + r, 65 + p]).map mkS := by
  unfold toldS
  rw [List.map_map]
  rfl
theorem told_str {h wd low sz : Nat} {ws : List Nat} {cs : List Pt} (hok : LawOk h wd low sz ws cs) {i : Nat} (hi : i < h) : strF (rowW low ws i) = Txt.join (Str.ofString "") (toldS low ws i (h * wd)) := by
  unfold strF rowW
  rw [List.map_map, hok.lens.1, toldS]
  congr 1
theorem flat2 {α : Type} : ∀ (L : List (List α)), (∀ l ∈ L, l.length = 2) → L.flatten.length = 2 * L.length
  | [], _ => rfl
  | l :: L, h => by
    rw [List.flatten_cons, List.length_append, h l (List.mem_cons_self ..), flat2 L fun x hx => h x (List.mem_cons_of_mem _ hx), List.length_cons]
    omega
theorem told_size {h wd low sz : Nat} {ws : List Nat} {cs : List Pt} (hok : LawOk h wd low sz ws cs) (i : Nat) : (Txt.join (Str.ofString "") (toldS low ws i (h * wd))).length = 2 * (rowW low ws i).length ∧ (rowW low ws i).length ≤ 10 := by
  refine ⟨?_, by have := rowW_len low ws i; have := hok.lens.1; have := hok.much; omega⟩
  rw [toldS_mk, show Txt.join (Str.ofString "") _ = _ from join_mkS _]
  have e : ∀ l : List Nat, (mkS l).length = l.length := fun l => by show l.toArray.size = _; simp
  rw [e, flat2 _ (fun l hl => by obtain ⟨p, _, rfl⟩ := List.mem_map.mp hl; rfl), List.length_map]
  unfold rowW
  rw [List.length_map, hok.lens.1]
theorem told_len {h wd low sz : Nat} {ws : List Nat} {cs : List Pt} (hok : LawOk h wd low sz ws cs) {i : Nat} (hi : i < h) : lenF (sz : Int) (rowW low ws i) = (sz : Int) + ((Txt.join (Str.ofString "") (toldS low ws i (h * wd))).length : Int) := by
  rw [(told_size hok i).1]
  unfold lenF
  have hs : ∀ (L : List (Str × Str)), (∀ p ∈ L, p.1.length = 1 ∧ p.2.length = 1) → (L.map fun p => ((p.1.length : Int) + (p.2.length : Int))).sum = 2 * (L.length : Int) := by
    intro L
    induction L with
    | nil => intro _; rfl
    | cons p L ih =>
      intro hL
      rw [List.map_cons, List.sum_cons, ih fun q hq => hL q (List.mem_cons_of_mem _ hq), (hL p (List.mem_cons_self ..)).1, (hL p (List.mem_cons_self ..)).2, List.length_cons]
      omega
  rw [hs _ fun p hp => by obtain ⟨q, _, rfl⟩ := List.mem_map.mp hp; exact ⟨rfl, rfl⟩]
  omega
theorem told_short {h wd low sz : Nat} {ws : List Nat} {cs : List Pt} (hok : LawOk h wd low sz ws cs) {i : Nat} (hi : i < h) : (Txt.join (Str.ofString "") (toldS low ws i (h * wd))).length ≤ 100000 := by
  have := told_size hok i
  omega
theorem told_fit {h wd low sz : Nat} {ws : List Nat} {cs : List Pt} (hok : LawOk h wd low sz ws cs) (i : Nat) : JoinFit (Str.ofString "") (toldS low ws i (h * wd)) := by
  rw [toldS_mk]
  refine fit_mk _ ?_
  rw [flat2 _ (fun l hl => by obtain ⟨p, _, rfl⟩ := List.mem_map.mp hl; rfl), List.length_map]
  have := List.length_filter_le (fun p => ws.getD p 0 == i) (List.range (h * wd))
  rw [List.length_range] at this
  have := hok.much
  omega
theorem wide_a : ∀ ws ∈ wGen 3 3 9, ∀ i, i < 3 → ((List.range 9).filter fun p => ws.getD p 0 == i).length = 3 := by decide +kernel
theorem wide_b : ∀ ws ∈ wGen 4 2 8, ∀ i, i < 4 → ((List.range 8).filter fun p => ws.getD p 0 == i).length = 2 := by decide +kernel
theorem wide_c : ∀ ws ∈ wGen 2 4 8, ∀ i, i < 2 → ((List.range 8).filter fun p => ws.getD p 0 == i).length = 4 := by decide +kernel
theorem wide_d : ∀ ws ∈ wGen 5 2 10, ∀ i, i < 5 → ((List.range 10).filter fun p => ws.getD p 0 == i).length = 2 := by decide +kernel
theorem rowW_wide {h wd low sz : Nat} {ws : List Nat} {cs : List Pt} (hok : LawOk h wd low sz ws cs) {i : Nat} (hi : i < h) : (rowW low ws i).length = wd := by
  unfold rowW
  rw [List.length_map, hok.lens.1]
  exact hok.cases (P := fun h wd _ ws => ∀ i, i < h → ((List.range (h * wd)).filter fun p => ws.getD p 0 == i).length = wd) wide_a wide_a wide_a wide_b wide_b wide_c wide_c wide_c wide_c wide_d i hi
end
section
open Lx
/-! texts, laid one behind the other -/
theorem ints_item : ∀ {vs : List Value} {ns : List Int}, IntsAre vs ns → ∀ (i : Nat) (v : Value), vs[i]? = some v → ∃ k t, v = .int k t ∧ ns[i]? = some k := by
  intro vs ns h
  induction h with
  | nil => intro i v e; simp at e
  | cons k t _ ih =>
    intro i v e
    cases i with
    | zero => simp at e; exact ⟨k, t, e.symm, rfl⟩
    | succ i => exact ih i v (by simpa using e)
theorem nats_item {vs : List Value} {ws : List Nat} (h : IntsAre vs (ws.map Int.ofNat)) {i : Nat} {v : Value} (e : vs[i]? = some v) : ∃ r t, v = .int (r : Nat) t ∧ ws[i]? = some r := by
  obtain ⟨k, t, rfl, e2⟩ := ints_item h i v e
  rw [List.getElem?_map] at e2
  cases e3 : ws[i]? with
  | none => rw [e3] at e2; cases e2
  | some r => rw [e3] at e2; cases e2; exact ⟨r, t, rfl, rfl⟩
theorem mk_item {vs : List Value} {ls : List (List Nat)} (h : StrsAre vs (ls.map mkS)) {i : Nat} {v : Value} (e : vs[i]? = some v) : ∃ l t, v = .str (mkS l) t ∧ ls[i]? = some l := by
  obtain ⟨y, t, rfl, e2⟩ := StrsAre.item h i v e
  rw [List.getElem?_map] at e2
  cases e3 : ls[i]? with
  | none => rw [e3] at e2; cases e2
  | some r => rw [e3] at e2; cases e2; exact ⟨r, t, rfl, rfl⟩
theorem ints_len {vs : List Value} {ns : List Int} (h : IntsAre vs ns) : vs.length = ns.length := by
  induction h with
  | nil => rfl
  | cons _ _ _ ih => simp [ih]
theorem part_len {cs : List Pt} {l : List Nat} (h : l ∈ partCodes cs) : l.length ≤ 2 := by
  obtain ⟨i, hi, rfl⟩ := List.mem_iff_getElem.mp h
  simp only [partCodes, List.getElem_mapIdx, Pt.codes, List.length_cons]
  have h3 := (cs[i]'(by simpa [partCodes] using hi)).ok
  have h4 : ∀ k, k < 3 → (tails.getD k []).length ≤ 1 := by decide
  have := h4 _ h3
  omega
section
variable {w : World} {p : PySem.Program} {loose : List Str} {mean : ExcName → Option Value} {mg mb : Str → Option Value} {L a : Addr} {cd : Value} {h₀ : Heap} {m : Str → Option Value} {s : Shared} {Q : Flow → Shared → Prop} {E : Value → Shared → Prop} {nw : Led}
set_option maxHeartbeats 2000000 in
theorem law_s6 (B : Below callerA h₀ [] h₀) (F : Fr h₀ L s.heap m) (X : (hd.heap_39 w.params).In h₀) (N : News h₀ L s.heap nw) (T : Top p loose mean mg mb h₀) (X24 : h₀.get? 24 = some (set24 w.params))
   {h wd low sz n1 n2 : Nat} {ws : List Nat} {cs : List Pt} {lw lp : Addr} {vw vp : List Value} {o1 o2 o3 o4 : Obj} {t t2 : Tok} (hok : LawOk h wd low sz ws cs)
   (hc1 : (L + 1, o1) ∈ nw) (hd1 : o1.data = .cell (some (.int (h : Int) t))) (hc2 : (L + 1 + 1, o2) ∈ nw) (hd2 : o2.data = .cell (some (.int (low : Int) t2))) (hc3 : (L + 1 + 1 + 1, o3) ∈ nw) (hd3 : o3.data = .cell (some (.ref lw))) (hc4 : (L + 1 + 1 + 1 + 1, o4) ∈ nw) (hd4 : o4.data = .cell none)
   (hmp : m (Str.ofString "parts") = some (.ref lp)) (hlw : (lw, listOf vw.toArray n1) ∈ nw) (hiw : IntsAre vw (ws.map Int.ofNat)) (hlp : (lp, listOf vp.toArray n2) ∈ nw) (hip : StrsAre vp ((partCodes cs).map mkS))
   (next : ∀ lm lr vm c5 c6 o4' t5 m' nw' h' tk gs, Bare s.gens gs → Fr h₀ L h' m' → News h₀ L h' nw' → Keep [L + 1 + 1 + 1 + 1] nw nw' → (L + 1 + 1 + 1 + 1, o4') ∈ nw' → o4'.data = .cell (some (.ref lm)) →
      (lm, listOf vm.toArray c5) ∈ nw' → StrsAre vm (marksL low h) → (lr, listOf #[] c6) ∈ nw' → lm < lr → (∀ p ∈ nw, p.1 < lr) → m' (Str.ofString "rows") = some (.ref lr) → m' (Str.ofString "text") = some (.str (mkS (textC low ws (partCodes cs))) t5) →
      (∀ y, y ≠ Str.ofString "text" → y ≠ Str.ofString "rows" → m' y = m y) →
      wpAny (model Challenge.rw_wo0004_01.row.prog w) (callerA.deeper (lawEnv L a cd)) (execs (lawBody.drop 10) (lawEnv L a cd)) Q (fun _ _ => False) { s with heap := h', toks := tk, gens := gs }) :
   wpAny (model Challenge.rw_wo0004_01.row.prog w) (callerA.deeper (lawEnv L a cd)) (execs (lawBody.drop 6) (lawEnv L a cd)) Q (fun _ _ => False) s := by
  have hb : h ≤ 5 ∧ wd ≤ 4 := shapes_small hok.shape
  have hwl : ws.length = h * wd := wGen_len hok.word
  have hm10 : h * wd ≤ 20 := Nat.le_trans (Nat.mul_le_mul hb.1 hb.2) (by decide)
  have hvw : vw.length = h * wd := by rw [ints_len hiw, List.length_map, hwl]
  have hvp : vp.length = h * wd := by rw [hip.length, List.length_map, partCodes_len, hok.parts]
  have hlo := hok.lo
  have hhi := hok.hi
  have hfit := text_fit hok
  obtain ⟨rest, hrest⟩ : ∃ r, r = lawBody.drop 10 := ⟨_, rfl⟩
  obtain ⟨sc, hsc⟩ : ∃ sc, sc = lawScope := ⟨_, rfl⟩
  obtain ⟨st6, hst6⟩ : ∃ x, x = lawAt 6 := ⟨_, rfl⟩
  obtain ⟨st7, hst7⟩ : ∃ x, x = lawAt 7 := ⟨_, rfl⟩
  obtain ⟨st8, hst8⟩ : ∃ x, x = lawAt 8 := ⟨_, rfl⟩
  obtain ⟨st9, hst9⟩ : ∃ x, x = lawAt 9 := ⟨_, rfl⟩
  rw [show lawBody.drop 6 = st6 :: st7 :: st8 :: st9 :: rest from by rw [hrest, hst6, hst7, hst8, hst9]; exact rfl]
  unfold lawEnv
  rw [← hsc]
  conv at hst6 => rhs; whnf
  conv at hst7 => rhs; whnf
  conv at hst8 => rhs; whnf
  conv at hst9 => rhs; whnf
  conv at hsc => rhs; whnf
  subst hst6 hst7 hst8 hst9 hsc
  k_steps
  unfold Hold
  refine lc_zip rfl rfl (by decide) rfl rfl hlw hlp (le_sizeLine (by simp; omega)) (by simp; omega) F N (fun i ys => StrsAre ys (((textL low ws (partCodes cs)).take i).map mkS)) .nil ?_ ?_
  · intro i u v ys nw1 m₂ C oC D I oI I1 oI1 I2 oI2 I3 oI3 I4 oI4 h1 tk1 E' hu hv e1 e2 hJ hK hC F1 N1
    obtain ⟨r, tr, rfl, hr⟩ := nats_item hiw (by simpa using hu)
    obtain ⟨pc, tp, rfl, hp⟩ := mk_item hip (by simpa using hv)
    have hrh := row_lt hok r (List.mem_of_getElem? hr)
    have hc2' := hK.mem0 hc2
    refine wpAny_tests_nil ?_
    have hpl := part_len (List.mem_of_getElem? hp)
    have hl1 : ({ cps := #[((low : Int) + (r : Int)).toNat] } : Str).length ≤ 100000 := by show 1 ≤ 100000; omega
    have hl2 : (mkS pc).length ≤ 100000 := by show pc.toArray.size ≤ 100000; simp; omega
    have hT : (textL low ws (partCodes cs)).take (i + 1) = (textL low ws (partCodes cs)).take i ++ [(low + r) :: pc] := by
      rw [List.take_add_one, textL, List.getElem?_zipWith, hr, hp]; rfl
    have hv9 : ({ cps := #[((low : Int) + (r : Int)).toNat] } : Str) ++ mkS pc = mkS ((low + r) :: pc) := by
      rw [show ((low : Int) + (r : Int)).toNat = low + r by omega]; exact sgn_app _ _
    k_steps
    refine LcEnd.intro (by k_asm) (by k_asm) (fun p hp => List.mem_append_left nw1 hp) (by k_updF) ?_
    show StrsAre _ _
    rw [hT, List.map_append, hv9]
    exact strs_snoc hJ _ _
  · intro D h1 tk1 ys nw1 hD hK hJ
    have hlen : (textL low ws (partCodes cs)).length = h * wd := by simp [textL, hwl, partCodes_len, hok.parts]
    rw [List.take_of_length_le (by simp [hlen, hvw])] at hJ
    intro F1 N1
    k_steps
    rename_i t2' k2 h2 F2 N2
    unfold Hold
    rw [show Txt.join (Str.ofString "") ((textL low ws (partCodes cs)).map mkS) = mkS (textC low ws (partCodes cs)) from join_mkS _] at F2 ⊢
    k_dflt (refine' Spec.use (marks_spec (textC_lt hok) (by have := textC_len hok; omega)) ?sB ?sF ?sX ?sN ?sT ?s24 ?sK ?sD ?sU ?_; k_extra "x_inv"; k_whole)
    rintro v3 nw3 h3 tk3 gs3 hG3 F3 N3 ⟨K3, lm, c3, vm, e3, hlm, hvm⟩
    subst e3
    rw [text_marks hok] at hvm
    have hc4' : (L + 1 + 1 + 1 + 1, o4) ∈ nw3 := K3.mem0 (List.mem_cons_of_mem _ (hK.mem0 hc4))
    have hc1' : (L + 1, o1) ∈ nw3 := K3.mem0 (List.mem_cons_of_mem _ (hK.mem0 hc1))
    have hc2' : (L + 1 + 1, o2) ∈ nw3 := K3.mem0 (List.mem_cons_of_mem _ (hK.mem0 hc2))
    have n14 : L + 1 ≠ L + 1 + 1 + 1 + 1 := by simp only [Addr]; omega
    have n24 : L + 1 + 1 ≠ L + 1 + 1 + 1 + 1 := by simp only [Addr]; omega
    have nm4 : lm ≠ L + 1 + 1 + 1 + 1 := led_ned N3 hlm hc4' (by rw [hd4]; intro e; cases e)
    k_steps
    rename_i h4 o4' F4 N4 d4 h5 tk5 t₁ u₁ v₁ hr5 F5 N5 hk5
    have hc2'' : (L + 1 + 1, o2) ∈ updL (L + 1 + 1 + 1 + 1) o4' nw3 := mem_updL_ne hc2' n24
    unfold Hold
    refine lc_range (n := h) rfl rfl rfl hr5 (rng0 rfl (by omega)).1 (rng0 rfl (by omega)).2 (le_sizeLine (by omega)) F5 N5 (fun i ys _ => StrsAre ys ((marksL low h).take i)) .nil (fun _ _ _ _ hj _ => hj) ?_ ?_
    · intro i u ys5 nw5 m₂ C oC D5 I oI h6 tk6 E' hi e1 hJ5 hK5 hD5 hC F6 N6
      have hc26 := hK5.mem0 hc2''
      refine wpAny_tests_nil ?_
      have hM : (marksL low h).take (i + 1) = (marksL low h).take i ++ [sgn (low + i)] := by
        rw [List.take_add_one, marksL, List.getElem?_map, List.getElem?_range hi]; rfl
      have hv9 : ({ cps := #[((low : Int) + (0 + (i : Int))).toNat] } : Str) = sgn (low + i) := by
        rw [show ((low : Int) + (0 + (i : Int))).toNat = low + i by omega]; rfl
      k_steps
      refine LcEnd.intro (by k_asm) (by k_asm) (fun p hp => List.mem_append_left nw5 hp) (by k_updF) ?_
      show StrsAre _ _
      rw [hM, hv9]
      exact strs_snoc hJ5 _ _
    · intro D5 h6 tk6 ys5 nw5 hD5 hK5 hJ5
      rw [List.take_of_length_le (by simp [marksL])] at hJ5
      intro F6 N6
      have hlm6 : (lm, listOf vm.toArray c3) ∈ nw5 := hK5.mem0 (mem_updL_ne hlm nm4)
      have hmo := marks_ok hok
      k_steps
      rename_i lr h7 ll7 h8 F8 N8
      subst hrest
      have hk8 : ∀ p ∈ updL (L + 1 + 1 + 1 + 1) o4' nw3, p ∈ nw5 := fun p hp => hK5.mem0 hp
      refine next lm lr vm c3 0 o4' t2' _ _ _ _ _ ?hb F8 N8 (fun p hp hn => ?hk) ?c4 d4 ?lm hvm ?lr ?l1 (fun p hp => ?l2) rfl rfl (fun y h1 h2 => ?nm)
      case hb => exact hG3
      case nm => show (if y = _ then _ else if y = _ then _ else m y) = m y; rw [if_neg h2, if_neg h1]
      case lr => exact List.mem_cons_self ..
      case l1 => exact kst_ltOf ll7.2 _ hlm6
      case l2 =>
        by_cases e : p.1 = L + 1 + 1 + 1 + 1
        · rw [e]; exact kst_ltOf ll7.2 _ (hk8 _ (mem_updL_self hc4'))
        · exact kst_ltOf ll7.2 _ (hk8 _ (mem_updL_ne (K3.mem0 (List.mem_cons_of_mem _ (hK.mem0 hp))) e))
      case lm => exact List.mem_cons_of_mem _ (List.mem_cons_of_mem _ hlm6)
      case c4 => exact List.mem_cons_of_mem _ (List.mem_cons_of_mem _ (hk8 _ (mem_updL_self hc4')))
      case hk => exact List.mem_cons_of_mem _ (List.mem_cons_of_mem _ (hk8 _ (mem_updL_ne (K3.mem0 (List.mem_cons_of_mem _ (hK.mem0 hp))) (fun e => hn (by simp [e])))))
end
end
section
open Lx
theorem marksL_get {low h i : Nat} (hi : i < h) : (marksL low h).getD i ⟨#[]⟩ = sgn (low + i) := by
  rw [marksL, List.getD_eq_getElem?_getD, List.getElem?_map, List.getElem?_range hi]; rfl
section
variable {w : World} {p : PySem.Program} {loose : List Str} {mean : ExcName → Option Value} {mg mb : Str → Option Value} {L a : Addr} {cd : Value} {h₀ : Heap} {m : Str → Option Value} {s : Shared} {Q : Flow → Shared → Prop} {E : Value → Shared → Prop} {nw : Led}
set_option maxHeartbeats 2000000 in
theorem law_great (B : Below callerA h₀ [] h₀) (F : Fr h₀ L s.heap m) (X : (hd.heap_39 w.params).In h₀) (N : News h₀ L s.heap nw) (T : Top p loose mean mg mb h₀) (X24 : h₀.get? 24 = some (set24 w.params))
   {h wd low sz i : Nat} {ws : List Nat} {cs : List Pt} {lw lp lm : Addr} {oA : Obj} {tA : Tok} (hok : LawOk h wd low sz ws cs) (A : LawA L h wd low sz ws cs lw lp lm m nw) (hi : i < h) (hcA : (L + 1 + 1 + 1 + 1 + 1, oA) ∈ nw) (hdA : oA.data = .cell (some (.int (i : Int) tA)))
   (next : ∀ m' nw' h' tk gs, Bare s.gens gs → Fr h₀ L h' m' → News h₀ L h' nw' → Keep [] nw nw' → (∀ y, y ≠ Str.ofString "great" → m' y = m y) →
      wpAny (model Challenge.rw_wo0004_01.row.prog w) (callerA.deeper (lawEnv L a cd)) (execs ((forBody 10).drop 2) (lawEnv L a cd)) Q (fun _ _ => False) { s with heap := h', toks := tk, gens := gs }) :
   wpAny (model Challenge.rw_wo0004_01.row.prog w) (callerA.deeper (lawEnv L a cd)) (execs ((forBody 10).drop 0) (lawEnv L a cd)) Q (fun _ _ => False) s := by
  have hb : h ≤ 5 ∧ wd ≤ 4 := shapes_small hok.shape
  obtain ⟨o3, hc3, hd3⟩ := A.cWord
  obtain ⟨o4, hc4, hd4⟩ := A.cMarks
  obtain ⟨tt, hmt⟩ := A.nText
  have hmp := A.nParts
  obtain ⟨vw, n1, hlw, hiw⟩ := A.word
  obtain ⟨vp, n2, hlp, hip⟩ := A.parts
  obtain ⟨vm, n3, hlm, him⟩ := A.marks
  have hwl : ws.length = h * wd := wGen_len hok.word
  have hm10 : h * wd ≤ 20 := Nat.le_trans (Nat.mul_le_mul hb.1 hb.2) (by decide)
  have hvw : vw.length = h * wd := by rw [ints_len hiw, List.length_map, hwl]
  have hvp : vp.length = h * wd := by rw [hip.length, List.length_map, partCodes_len, hok.parts]
  clear A
  obtain ⟨rest, hrest⟩ : ∃ r, r = (forBody 10).drop 2 := ⟨_, rfl⟩
  obtain ⟨sc, hsc⟩ : ∃ sc, sc = lawScope := ⟨_, rfl⟩
  obtain ⟨st0, hst0⟩ : ∃ x, x = (forBody 10).getD 0 (.Pass default) := ⟨_, rfl⟩
  obtain ⟨st1, hst1⟩ : ∃ x, x = (forBody 10).getD 1 (.Pass default) := ⟨_, rfl⟩
  rw [show (forBody 10).drop 0 = st0 :: st1 :: rest from by rw [hrest, hst0, hst1]; exact rfl]
  unfold lawEnv
  rw [← hsc]
  conv at hst0 => rhs; whnf
  conv at hst1 => rhs; whnf
  conv at hsc => rhs; whnf
  subst hst0 hst1 hsc
  k_steps
  unfold Hold
  refine lc_zip rfl rfl (by decide) rfl rfl hlw hlp (le_sizeLine (by simp; omega)) (by simp; omega) F N (fun i1 ys => StrsAre ys ((greatS i ws (partCodes cs)).take i1)) .nil ?_ ?_
  · intro i1 u v ys nw1 m₂ C oC D I oI I1 oI1 I2 oI2 I3 oI3 I4 oI4 h1 tk1 E' hu hv e1 e2 hJ hK hC F1 N1
    obtain ⟨r, tr, rfl, hr⟩ := nats_item hiw (by simpa using hu)
    obtain ⟨pc, tp, rfl, hp⟩ := mk_item hip (by simpa using hv)
    have hcA' := hK.mem0 hcA
    refine wpAny_tests_nil ?_
    have hpl := part_len (List.mem_of_getElem? hp)
    have hl2 : (mkS pc).length ≤ 100000 := by show pc.toArray.size ≤ 100000; simp; omega
    have hT : (greatS i ws (partCodes cs)).take (i1 + 1) = (greatS i ws (partCodes cs)).take i1 ++ [if r = i then Txt.upper (mkS pc) else Txt.lower (mkS pc)] := by
      rw [List.take_add_one, greatS, List.getElem?_zipWith, hr, hp]; rfl
    k_steps
    · rename_i cE a1 a2
      refine LcEnd.intro (by k_asm) (by k_asm) (fun p hp => List.mem_append_left nw1 hp) (by k_updF) ?_
      show StrsAre _ _
      rw [hT, if_pos (by omega)]
      exact strs_snoc hJ _ _
    · rename_i cE a1 a2
      refine LcEnd.intro (by k_asm) (by k_asm) (fun p hp => List.mem_append_left nw1 hp) (by k_updF) ?_
      show StrsAre _ _
      rw [hT, if_neg (by omega)]
      exact strs_snoc hJ _ _
  · intro D h1 tk1 ys nw1 hD hK hJ
    have hgl : (greatS i ws (partCodes cs)).length = h * wd := by simp [greatS, hwl, partCodes_len, hok.parts]
    rw [List.take_of_length_le (by simp [hgl, hvw])] at hJ
    have hyl : ys.length = h * wd := by rw [hJ.length, hgl]
    intro F1 N1
    have hcA1 := hK.mem0 hcA
    have hc31 := hK.mem0 hc3
    have hc41 := hK.mem0 hc4
    have hlw1 := hK.mem0 hlw
    have hlm1 := hK.mem0 hlm
    have hmlen : (marksL low h).length = h := by simp [marksL]
    have hi0 : (0 : Int) ≤ (i : Int) := by omega
    have hil : (i : Int) < (marksL low h).length := by rw [hmlen]; omega
    have hgi : (marksL low h).getD (Int.toNat (i : Int)) ⟨#[]⟩ = sgn (low + i) := by rw [Int.toNat_natCast]; exact marksL_get hi
    have hcap : CapOk (mkS (textC low ws (partCodes cs))) ((marksL low h).getD (Int.toNat (i : Int)) ⟨#[]⟩) := by rw [hgi]; exact cap_ok hok hi
    k_steps
    rename_i t8 nw9 h9 tk9 gs9 hG9 F9 N9 K9 t9
    have hK9 : ∀ p ∈ nw1, p ∈ nw9 := fun p hp => K9.mem0 (List.mem_cons_of_mem _ hp)
    have hfit := great_fit hok i
    have hce : capS (mkS (textC low ws (partCodes cs))) ((marksL low h).getD (Int.toNat (i : Int)) ⟨#[]⟩) = Txt.join (Str.ofString "") (greatJ low i ws (partCodes cs)) := by rw [hgi]; exact cap_text hok hi
    unfold Hold
    refine lc_zip (xs := vw.toArray) (ys₀ := ys.toArray) rfl rfl (by decide) rfl rfl (hK9 _ hlw1) (K9.mem0 (List.mem_cons_self ..)) (le_sizeLine (by simp; omega)) (by simp; omega) F9 N9 (fun i1 ys => StrsAre ys ((greatJ low i ws (partCodes cs)).take i1)) .nil ?_ ?_
    · intro i1 u v ys2 nw2 m₂ C oC D2 I oI I1 oI1 I2 oI2 I3 oI3 I4 oI4 h2 tk2 E' hu hv e1 e2 hJ2 hK2 hC F2 N2
      obtain ⟨r, tr, rfl, hr⟩ := nats_item hiw (by simpa using hu)
      obtain ⟨g, tg, rfl, hg⟩ := StrsAre.item hJ _ _ (by simpa using hv)
      have hrh := row_lt hok r (List.mem_of_getElem? hr)
      have hc42 := hK2.mem0 (hK9 _ hc41)
      have hlm2 := hK2.mem0 (hK9 _ hlm1)
      have hr0 : (0 : Int) ≤ (r : Int) := by omega
      have hrl : (r : Int) < (marksL low h).length := by rw [hmlen]; omega
      have hgr : (marksL low h).getD (Int.toNat (r : Int)) ⟨#[]⟩ = sgn (low + r) := by rw [Int.toNat_natCast]; exact marksL_get hrh
      have hl1 : ((marksL low h).getD (Int.toNat (r : Int)) ⟨#[]⟩).length ≤ 100000 := by rw [hgr]; show 1 ≤ 100000; omega
      have hl2 : g.length ≤ 100000 := great_len (List.mem_of_getElem? hg)
      have hT : (greatJ low i ws (partCodes cs)).take (i1 + 1) = (greatJ low i ws (partCodes cs)).take i1 ++ [sgn (low + r) ++ g] := by
        rw [List.take_add_one, greatJ, List.getElem?_zipWith, hr, hg]; rfl
      refine wpAny_tests_nil ?_
      k_steps
      refine LcEnd.intro (by k_asm) (by k_asm) (fun p hp => List.mem_append_left nw2 hp) (by k_updF) ?_
      show StrsAre _ _
      rw [hT, hgr]
      exact strs_snoc hJ2 _ _
    · intro D2 h2 tk2 ys2 nw2 hD2 hK2 hJ2
      have hgl2 : (greatJ low i ws (partCodes cs)).length = h * wd := by simp [greatJ, hwl, hgl]
      rw [List.take_of_length_le (by simp [hgl2, hvw])] at hJ2
      intro F2 N2
      k_steps
      subst hrest
      dsimp only
      refine next _ _ _ _ _ ?hb F2 N2 (fun p hp hn => ?hk) (fun y h1 => ?nm)
      case hb => exact hG9
      case hk => exact List.mem_cons_of_mem _ (hK2.mem0 (hK9 _ (hK.mem0 hp)))
      case nm => show (if y = _ then _ else m y) = m y; rw [if_neg h1]
end
end
section
variable {w : World} {p : PySem.Program} {loose : List Str} {mean : ExcName → Option Value} {mg mb : Str → Option Value} {L a : Addr} {cd : Value} {h₀ : Heap} {m : Str → Option Value} {s : Shared} {Q : Flow → Shared → Prop} {E : Value → Shared → Prop} {nw : Led}
set_option maxHeartbeats 2000000 in
theorem law_rowb (B : Below callerA h₀ [] h₀) (F : Fr h₀ L s.heap m) (X : (hd.heap_39 w.params).In h₀) (N : News h₀ L s.heap nw) (T : Top p loose mean mg mb h₀) (X24 : h₀.get? 24 = some (set24 w.params))
   {h wd low sz i : Nat} {ws : List Nat} {cs : List Pt} {lw lp lm : Addr} {oA : Obj} {tA : Tok} (hok : LawOk h wd low sz ws cs) (A : LawA L h wd low sz ws cs lw lp lm m nw) (hi : i < h) (hcA : (L + 1 + 1 + 1 + 1 + 1, oA) ∈ nw) (hdA : oA.data = .cell (some (.int (i : Int) tA)))
   (next : ∀ x dx its n hh tkz tz m' nw' h' tk gs, Bare s.gens gs → Fr h₀ L h' m' → News h₀ L h' nw' → Keep [] nw nw' → (∀ p ∈ nw, p.1 < dx ∧ p.1 < x) → m' (Str.ofString "row") = some (.ref x) → (x, accO dx its n) ∈ nw' → (dx, sizeO hh tkz (sz : Int) tz) ∈ nw' → PairsIn nw' its.toList (rowW low ws i) →
      (∀ y, y ≠ Str.ofString "row" → y ≠ Str.ofString "mark" → y ≠ Str.ofString "letter" → m' y = m y) →
      wpAny (model Challenge.rw_wo0004_01.row.prog w) (callerA.deeper (lawEnv L a cd)) (execs ((forBody 10).drop 4) (lawEnv L a cd)) Q (fun _ _ => False) { s with heap := h', toks := tk, gens := gs }) :
   wpAny (model Challenge.rw_wo0004_01.row.prog w) (callerA.deeper (lawEnv L a cd)) (execs ((forBody 10).drop 2) (lawEnv L a cd)) Q (fun _ _ => False) s := by
  have hb : h ≤ 5 ∧ wd ≤ 4 := shapes_small hok.shape
  obtain ⟨o4, hc4, hd4⟩ := A.cMarks
  obtain ⟨tt, hmt⟩ := A.nText
  obtain ⟨ts, hms⟩ := A.nSize
  obtain ⟨vm, n3, hlm, him⟩ := A.marks
  have hwl : ws.length = h * wd := wGen_len hok.word
  have hm10 : h * wd ≤ 20 := Nat.le_trans (Nat.mul_le_mul hb.1 hb.2) (by decide)
  clear A
  obtain ⟨rest, hrest⟩ : ∃ r, r = (forBody 10).drop 4 := ⟨_, rfl⟩
  obtain ⟨sc, hsc⟩ : ∃ sc, sc = lawScope := ⟨_, rfl⟩
  obtain ⟨st2, hst2⟩ : ∃ x, x = (forBody 10).getD 2 (.Pass default) := ⟨_, rfl⟩
  obtain ⟨st3, hst3⟩ : ∃ x, x = (forBody 10).getD 3 (.Pass default) := ⟨_, rfl⟩
  rw [show (forBody 10).drop 2 = st2 :: st3 :: rest from by rw [hrest, hst2, hst3]; exact rfl]
  unfold lawEnv
  rw [← hsc]
  conv at hst2 => rhs; whnf
  conv at hst3 => rhs; whnf
  conv at hsc => rhs; whnf
  subst hst2 hst3 hsc
  k_steps
  unfold Hold
  k_dflt (refine' Spec.use (new_spec) ?sB ?sF ?sX ?sN ?sT ?s24 ?sK ?sD ?sU ?_; k_extra "x_inv"; k_whole)
  rintro v1 nw1 h1 tk1 gs1 hG1 F1 N1 ⟨K1, x, dx, nx, hh, tkz, tz, e1, ldx, lx, hx, hdx⟩
  subst e1
  have hcA1 := K1.mem0 hcA
  have hc41 := K1.mem0 hc4
  have hlm1 := K1.mem0 hlm
  have hmlen : (marksL low h).length = h := by simp [marksL]
  have hi0 : (0 : Int) ≤ (i : Int) := by omega
  have hil : (i : Int) < (marksL low h).length := by rw [hmlen]; omega
  have hgi : (marksL low h).getD (Int.toNat (i : Int)) ⟨#[]⟩ = sgn (low + i) := by rw [Int.toNat_natCast]; exact marksL_get hi
  clear F N
  k_steps
  rename_i h2 F2 N2 t2
  unfold Hold
  rw [hgi]
  k_dflt (refine' Spec.use (row_spec (cap_ok hok hi)) ?sB ?sF ?sX ?sN ?sT ?s24 ?sK ?sD ?sU ?_; k_extra "x_inv"; k_whole)
  rintro v3 nw3 h3 tk3 gs3 hG3 F3 N3 ⟨K3, l, c3, vl, e3, ll, hl, hp⟩
  subst e3
  rw [row_text hok hi] at hp
  have hrl := rowW_len low ws i
  have hx3 := K3.mem0 hx
  have hdx3 := K3.mem0 hdx
  have nxl : l ≠ x := Ne.symm (Nat.ne_of_lt (ll _ hx))
  have nxd : dx ≠ x := led_ne N3 hdx3 hx3 (by intro e; cases e)
  clear F2 N2
  k_steps
  unfold Hold
  refine forO_list rfl F3 N3 hl [x] (by simpa using nxl) (fun j m' nw' => m' (Str.ofString "row") = some (.ref x) ∧ (∀ y, y ≠ Str.ofString "row" → y ≠ Str.ofString "mark" → y ≠ Str.ofString "letter" → m' y = m y) ∧ ∃ itsI nI, (x, accO dx itsI nI) ∈ nw' ∧ (dx, sizeO hh tkz (sz : Int) tz) ∈ nw' ∧ PairsIn nw' itsI.toList ((rowW low ws i).take j)) ?_ ?_ ?_ ?_
  · exact ⟨rfl, fun y h1 _ _ => if_neg h1, #[], nx, hx3, hdx3, by simpa using PairsIn.nil⟩
  · rintro j m' nw1 nw2 ⟨a1, a2, itsI, nI, a3, a4, a5⟩ k
    exact ⟨a1, a2, itsI, nI, k _ a3 (.inl (.inr (.inr (.inr (.inl rfl))))), k _ a4 (.inl (.inr (.inr (.inl rfl)))), a5.mono fun p hp ht => k p hp (.inl (.inr (.inl ht.1)))⟩
  · rintro j v I oI m5 nw5 h5 tk5 gs5 hG5 hin ⟨e1, e2, itsI, nI, hxI, hdI, hpI⟩ K5 hlt5 ho F5 N5
    have hvi : vl[j]? = some v := by simpa using hin
    have hj9 : j < (rowW low ws i).length := by rw [← hp.1]; exact (List.getElem?_eq_some_iff.mp hvi).1
    obtain ⟨q5, t5, u5, hq5, hm5⟩ := hp.get hj9
    obtain rfl : v = .ref q5 := by rw [hvi] at hq5; exact Option.some.inj hq5
    have nq5 : q5 ≠ x := led_ne N3 hm5 hx3 (by intro e; cases e)
    have hm6 : (q5, pairO ((rowW low ws i).getD j (⟨#[]⟩, ⟨#[]⟩)).1 ((rowW low ws i).getD j (⟨#[]⟩, ⟨#[]⟩)).2 t5 u5) ∈ nw5 := K5.mem1 hm5 nq5
    have hT5 : IsTup h5 q5 #[.str ((rowW low ws i).getD j (⟨#[]⟩, ⟨#[]⟩)).1 t5, .str ((rowW low ws i).getD j (⟨#[]⟩, ⟨#[]⟩)).2 u5] := ⟨_, (N5 _ (List.mem_cons_of_mem _ hm6)).1, rfl, _, rfl⟩
    have nI5 : I ≠ x := Ne.symm (Nat.ne_of_lt (hlt5 _ hx3))
    have hsI : itsI.size ≤ 1000 := by have h9 := hpI.1; rw [Array.length_toList, List.length_take] at h9; omega
    have hK5 : ∀ nw', Keep [x] nw5 nw' → PairsIn nw' itsI.toList ((rowW low ws i).take j) := fun nw' hk => hpI.keepC (fun p hp => N5 p (List.mem_cons_of_mem _ hp)) (C := [x]) (fun a ha => by obtain rfl := List.mem_singleton.mp ha; exact ⟨_, hxI, by intro e; cases e⟩) hk
    have e5 : (rowW low ws i).take (j + 1) = (rowW low ws i).take j ++ [(((rowW low ws i).getD j (⟨#[]⟩, ⟨#[]⟩)).1, ((rowW low ws i).getD j (⟨#[]⟩, ⟨#[]⟩)).2)] := by
      have e6 : (rowW low ws i)[j]? = some ((rowW low ws i).getD j P0) := by rw [List.getD_eq_getElem?_getD, List.getElem?_eq_getElem hj9]; rfl
      rw [List.take_add_one, e6]; rfl
    k_steps
    unfold Hold
    refine TEnd.intro (by k_asm) (by k_asm) (List.forall_mem_cons.mpr ⟨by k_mem, fun _ h => nomatch h⟩) (by k_updF) ⟨by exact e1, fun y h1 h2 h3 => ?nm, _, _, by k_mem, by k_mem, ?ps⟩
    case nm => show (if y = _ then _ else if y = _ then _ else m5 y) = m y; rw [if_neg h3, if_neg h2]; exact e2 y h1 h2 h3
    case ps =>
      rw [e5, Array.toList_push]
      exact PairsIn.snoc (hK5 _ (by k_updF)) (List.mem_cons_self ..)
  · rintro m5 nw5 h5 tk5 gs5 hG5 ⟨e1, e2, itsI, nI, hxI, hdI, hpI⟩ K5 F5 N5
    rw [List.take_of_length_le (by rw [List.size_toArray, hp.1]; exact Nat.le_refl _)] at hpI
    subst hrest
    dsimp only
    refine next x dx itsI nI hh tkz tz m5 nw5 h5 _ _ ?hb F5 N5 (fun p hp hn => ?hk) (fun p hp => ⟨ldx p hp, Nat.lt_trans (ldx p hp) lx⟩) e1 hxI hdI hpI e2
    case hb => exact (Bare.trans (Bare.trans (by exact hG1) (by exact hG3)) (by exact hG5))
    case hk => exact K5.mem1 (K3.mem0 (K1.mem0 hp)) (Nat.ne_of_lt (Nat.lt_trans (ldx p hp) lx))
end
section
variable {prog : Program} {w : World} {A : Around} {E : Value → Shared → Prop} {s : Shared} {h₀ : Heap} {L x dx : Addr} {news : Led} {its : Array Value} {n : Nat}
theorem hold_acc {f : Value} {Q : Value → Shared → Prop} (_ : News h₀ L s.heap news) (_ : (x, accO dx its n) ∈ news) (h : Hold (wpAny (model prog w) A (call f [.ref x]) Q E s)) : wpAny (model prog w) A (call f [.ref x]) Q E s := h
end
theorem rules_36_1 : True := by
  (k_with "call builtin:len" => ((k_here; (with_reducible show wpAny _ _ (call (Value.builtin "len") [Value.ref _]) _ _ _); k_dflt (refine' hold_acc ?z0k1 ?z0k2 ?_; (case z0k1 => k_asm); (case z0k2 => k_mem); k_whole))))
  (k_with "call type:str" => ((k_here; (with_reducible show wpAny _ _ (call (Value.type "str") [Value.ref _]) _ _ _); k_dflt (refine' hold_acc ?z0k1 ?z0k2 ?_; (case z0k1 => k_asm); (case z0k2 => k_mem); k_whole))))
  trivial
theorem rowW_short (low : Nat) (ws : List Nat) (i : Nat) : ∀ p ∈ rowW low ws i, p.1.length ≤ 1000 ∧ p.2.length ≤ 1000 := by
  intro p hp
  obtain ⟨q, _, rfl⟩ := List.mem_map.mp hp
  exact ⟨by show 1 ≤ 1000; omega, by show 1 ≤ 1000; omega⟩
section
variable {w : World} {p : PySem.Program} {loose : List Str} {mean : ExcName → Option Value} {mg mb : Str → Option Value} {L a : Addr} {cd : Value} {h₀ : Heap} {m : Str → Option Value} {s : Shared} {Q : Flow → Shared → Prop} {nw : Led}
set_option maxHeartbeats 4000000 in
theorem law_told (B : Below callerA h₀ [] h₀) (F : Fr h₀ L s.heap m) (X : (hd.heap_39 w.params).In h₀) (N : News h₀ L s.heap nw) (T : Top p loose mean mg mb h₀) (X24 : h₀.get? 24 = some (set24 w.params))
   {h wd low sz i : Nat} {ws : List Nat} {cs : List Pt} {lw lp lm : Addr} {oA : Obj} {tA : Tok} (hok : LawOk h wd low sz ws cs) (A : LawA L h wd low sz ws cs lw lp lm m nw) (hi : i < h) (hcA : (L + 1 + 1 + 1 + 1 + 1, oA) ∈ nw) (hdA : oA.data = .cell (some (.int (i : Int) tA)))
   {x dx lr : Addr} {its : Array Value} {n nr : Nat} {vr : List Value} {hh : Int} {tkz tz : Tok} (hmx : m (Str.ofString "row") = some (.ref x)) (hmr : m (Str.ofString "rows") = some (.ref lr)) (hx : (x, accO dx its n) ∈ nw) (hdx : (dx, sizeO hh tkz (sz : Int) tz) ∈ nw) (hp : PairsIn nw its.toList (rowW low ws i)) (hr : (lr, listOf vr.toArray nr) ∈ nw) (hrl : vr.length ≤ 1000)
   (next : ∀ nr' m' nw' h' tk gs, Bare s.gens gs → Fr h₀ L h' m' → News h₀ L h' nw' → Keep [76, 83, lr] nw nw' → (lr, listOf (vr ++ [Value.ref x]).toArray nr') ∈ nw' → (∃ ps, (76, tabO ps) ∈ nw' ∧ TriplesOk ps.toList) → (∃ ps, (83, tabO ps) ∈ nw' ∧ TriplesOk ps.toList) → (∀ y, y ≠ Str.ofString "told" → m' y = m y) →
      Q .next { s with heap := h', toks := tk, gens := gs }) :
   wpAny (model Challenge.rw_wo0004_01.row.prog w) (callerA.deeper (lawEnv L a cd)) (execs ((forBody 10).drop 4) (lawEnv L a cd)) Q (fun _ _ => False) s := by
  have hb : h ≤ 5 ∧ wd ≤ 4 := shapes_small hok.shape
  obtain ⟨o1, t1, hc1, hd1⟩ := A.cHigh
  obtain ⟨o3, hc3, hd3⟩ := A.cWord
  obtain ⟨o4, hc4, hd4⟩ := A.cMarks
  obtain ⟨tt, hmt⟩ := A.nText
  obtain ⟨ts, hms⟩ := A.nSize
  obtain ⟨tw, hmw⟩ := A.nWide
  obtain ⟨vm, n3, hlm, him⟩ := A.marks
  obtain ⟨vw, n1, hlw, hiw⟩ := A.word
  obtain ⟨ps1, ht1, hp1⟩ := A.tab1
  obtain ⟨ps2, ht2, hp2⟩ := A.tab2
  have hwl : ws.length = h * wd := wGen_len hok.word
  have hm10 : h * wd ≤ 20 := Nat.le_trans (Nat.mul_le_mul hb.1 hb.2) (by decide)
  have hlo := hok.lo
  have hhi := hok.hi
  have nx83 : x ≠ 83 := led_ne N hx ht2 (by intro e; cases e)
  have nd83 : dx ≠ 83 := led_ne N hdx ht2 (by intro e; cases e)
  have nr83 : lr ≠ 83 := led_ne N hr ht2 (by intro e; cases e)
  have nx76 : x ≠ 76 := led_ne N hx ht1 (by intro e; cases e)
  have nd76 : dx ≠ 76 := led_ne N hdx ht1 (by intro e; cases e)
  have nr76 : lr ≠ 76 := led_ne N hr ht1 (by intro e; cases e)
  have n18 : L + 1 ≠ 83 := led_ned N hc1 ht2 (by rw [hd1]; intro e; cases e)
  have n17 : L + 1 ≠ 76 := led_ned N hc1 ht1 (by rw [hd1]; intro e; cases e)
  have hkc : ∀ nw', Keep [83] nw nw' → PairsIn nw' its.toList (rowW low ws i) := fun nw' hk => hp.keepC N (C := [83]) (fun a ha => by obtain rfl := List.mem_singleton.mp ha; exact ⟨_, ht2, by intro e; cases e⟩) hk
  clear A
  obtain ⟨rest, hrest⟩ : ∃ r, r = (forBody 10).drop 7 := ⟨_, rfl⟩
  obtain ⟨sc, hsc⟩ : ∃ sc, sc = lawScope := ⟨_, rfl⟩
  obtain ⟨st4, hst4⟩ : ∃ x, x = (forBody 10).getD 4 (.Pass default) := ⟨_, rfl⟩
  obtain ⟨st5, hst5⟩ : ∃ x, x = (forBody 10).getD 5 (.Pass default) := ⟨_, rfl⟩
  obtain ⟨st6, hst6⟩ : ∃ x, x = (forBody 10).getD 6 (.Pass default) := ⟨_, rfl⟩
  rw [show (forBody 10).drop 4 = st4 :: st5 :: st6 :: rest from by rw [hrest, hst4, hst5, hst6]; exact rfl]
  unfold lawEnv
  rw [← hsc]
  conv at hst4 => rhs; whnf
  conv at hst5 => rhs; whnf
  conv at hst6 => rhs; whnf
  conv at hsc => rhs; whnf
  subst hst4 hst5 hst6 hsc
  k_steps
  rename_i h2 tk2 t₁ u₁ v₁ hr2 F2 N2 hk2
  have hhw : (h : Int) * (wd : Int) = ((h * wd : Nat) : Int) := by simp
  unfold Hold
  refine lc_range (n := h * wd) rfl rfl rfl hr2 (rng0 hhw (by omega)).1 (rng0 hhw (by omega)).2 (le_sizeLine (by omega)) F2 N2 (fun i1 ys _ => StrsAre ys (toldS low ws i i1)) .nil (fun _ _ _ _ hj _ => hj) ?_ ?_
  · intro j u ys5 nw5 m₂ C oC D5 I oI h6 tk6 E' hj e1 hJ5 hK5 hD5 hC F6 N6
    have hcA5 := hK5.mem0 hcA
    have hc35 := hK5.mem0 hc3
    have hc45 := hK5.mem0 hc4
    have hlm5 := hK5.mem0 hlm
    have hlw5 := hK5.mem0 hlw
    have hmlen : (marksL low h).length = h := by simp [marksL]
    have hi0 : (0 : Int) ≤ (i : Int) := by omega
    have hil : (i : Int) < (marksL low h).length := by rw [hmlen]; omega
    have hgi : (marksL low h).getD (Int.toNat (i : Int)) ⟨#[]⟩ = sgn (low + i) := by rw [Int.toNat_natCast]; exact marksL_get hi
    have hj0 : (0 : Int) ≤ 0 + (j : Int) := by omega
    have hjl : (0 : Int) + (j : Int) < (ws.map Int.ofNat).length := by rw [List.length_map, hwl]; omega
    have hwj : (ws.map Int.ofNat).getD (Int.toNat (0 + (j : Int))) 0 = ((ws.getD j 0 : Nat) : Int) := by
      rw [show Int.toNat (0 + (j : Int)) = j by omega, List.getD_eq_getElem?_getD, List.getElem?_map, List.getElem?_eq_getElem (by omega), List.getD_eq_getElem?_getD, List.getElem?_eq_getElem (by omega)]; rfl
    have hl1 : ((marksL low h).getD (Int.toNat (i : Int)) ⟨#[]⟩).length ≤ 100000 := by rw [hgi]; show 1 ≤ 100000; omega
    have hl2 : ({ cps := #[((65 : Int) + (0 + (j : Int))).toNat] } : Str).length ≤ 100000 := by show 1 ≤ 100000; omega
    have hv9 : (marksL low h).getD (Int.toNat (i : Int)) ⟨#[]⟩ ++ ({ cps := #[((65 : Int) + (0 + (j : Int))).toNat] } : Str) = sgn (low + i) ++ sgn (65 + j) := by
      rw [hgi, show ((65 : Int) + (0 + (j : Int))).toNat = 65 + j by omega]; rfl
    refine wpAny_tests_one ?_
    k_steps
    · rename_i a1 _ _ _ _ _
      refine LcEnd.intro (by k_asm) (by k_asm) (fun p hp => List.mem_append_left nw5 hp) (by k_updF) ?_
      show StrsAre _ _
      rw [toldS_succ, if_pos (by rw [hwj] at a1; omega), hv9]
      exact strs_snoc hJ5 _ _
    · rename_i a1
      refine LcEnd.intro (by k_asm) (by k_asm) (fun p hp => List.mem_append_left nw5 hp) (by k_updF) ?_
      show StrsAre _ _
      rw [toldS_succ, if_neg (by rw [hwj] at a1; omega), List.append_nil]
      exact hJ5
  · intro D5 h6 tk6 ys5 nw5 hD5 hK5 hJ5
    intro F6 N6
    have hfit := told_fit hok i
    have hts := told_str hok hi
    have htl := told_len hok hi
    have hrw := rowW_wide hok hi
    have hsz : its.size = wd := by have h9 := hp.1; rw [Array.length_toList] at h9; omega
    have hcA5 := hK5.mem0 hcA
    have hc15 := hK5.mem0 hc1
    have hx5 := hK5.mem0 hx
    have hdx5 := hK5.mem0 hdx
    have hr5 := hK5.mem0 hr
    have ht15 := hK5.mem0 ht1
    have ht25 := hK5.mem0 ht2
    have hp6 : PairsIn ((D5, lcObj ys5) :: nw5) its.toList (rowW low ws i) := hp.sub (fun q hq => List.mem_cons_of_mem _ (hK5.mem0 hq))
    k_steps
    unfold Hold
    rename_i t8 k8 h8 F8 N8
    k_dflt (refine' str_use (x := x) ?hx ?hdx ?ht hp2 hp6 (rowW_short low ws i) ?ln ?sB ?sF ?sX ?sN ?sT ?s24 ?sK ?sD ?sU ?_; (case hx => k_mem); (case hdx => k_mem); (case ht => k_mem); (case ln => omega); k_extra "x_inv"; k_whole)
    intro t9 h9 tk9 gs9 ps9 hG9 htr9 F9 N9
    have k9 : Keep [83] nw (updL 83 (tabO ps9) ((D5, lcObj ys5) :: nw5)) := fun p hp hn => mem_updL_ne (List.mem_cons_of_mem _ (hK5.mem0 hp)) (by simpa using hn)
    have t83 : (83, tabO ps9) ∈ updL 83 (tabO ps9) ((D5, lcObj ys5) :: nw5) := mem_updL_self (List.mem_cons_of_mem _ ht25)
    generalize updL 83 (tabO ps9) ((D5, lcObj ys5) :: nw5) = nw9 at *
    have hx9 := k9.mem1 hx nx83
    have hdx9 := k9.mem1 hdx nd83
    have hr9 := k9.mem1 hr nr83
    have hc19 := k9.mem1 hc1 n18
    have ht19 := k9.mem1 ht1 (show (76 : Addr) ≠ 83 by decide)
    have hp9 := hkc _ k9
    k_steps
    unfold Hold
    k_dflt (refine' len_use (x := x) ?hx ?hdx ?ht hp1 hp9 (rowW_short low ws i) ?ln ?k0 ?k1 ?sB ?sF ?sX ?sN ?sT ?s24 ?sK ?sD ?sU ?_; (case hx => k_mem); (case hdx => k_mem); (case ht => k_mem); (case ln => omega); (case k0 => omega); (case k1 => have := hok.size; omega); k_extra "x_inv"; k_whole)
    intro t10 h10 tk10 gs10 ps10 hG10 htr10 F10 N10
    have k10 : Keep [76, 83] nw (updL 76 (tabO ps10) nw9) := fun p hp hn => mem_updL_ne (k9 p hp fun e => hn (List.mem_cons_of_mem _ e)) (fun e => hn (by simp [e]))
    have t83' : (83, tabO ps9) ∈ updL 76 (tabO ps10) nw9 := mem_updL_ne t83 (by decide)
    have t76 : (76, tabO ps10) ∈ updL 76 (tabO ps10) nw9 := mem_updL_self ht19
    generalize updL 76 (tabO ps10) nw9 = nw10 at *
    have hx10 : (x, accO dx its n) ∈ nw10 := k10 _ hx (by simp [nx76, nx83])
    have hdx10 : (dx, sizeO hh tkz (sz : Int) tz) ∈ nw10 := k10 _ hdx (by simp [nd76, nd83])
    have hr10 : (lr, listOf vr.toArray nr) ∈ nw10 := k10 _ hr (by simp [nr76, nr83])
    have htl' : lenF (sz : Int) (rowW low ws i) = (sz : Int) + ((Txt.join (Str.ofString "") (toldS low ws i (h * wd))).length : Int) := htl
    have hts' := told_short hok hi
    k_steps
    · rename_i a9
      exact absurd htl a9
    · rename_i a9
      exact absurd hsz (by omega)
    · rename_i nw11 h11 tk11 gs11 hG11 t11 a11 h12 F12 N12
      subst hrest
      show wpAny _ _ (execs [] _) _ _ _
      refine wpAny_execs_nil ?_
      refine next _ _ _ _ _ _ ?hb F12 N12 (fun p hp hn => ?hk) (mem_updL_self hr10) ⟨ps10, mem_updL_ne t76 nr76.symm, htr10⟩ ⟨ps9, mem_updL_ne t83' nr83.symm, htr9⟩ (fun y hy => ?nm)
      case hb => exact Bare.trans (Bare.trans (by exact hG9) (by exact hG10)) (by exact hG11)
      case nm => show (if y = _ then _ else m y) = m y; rw [if_neg hy]
      case hk => exact mem_updL_ne (k10 p hp fun e => hn (List.mem_append_left [lr] e)) (fun e => hn (by simp [e]))
end
/-! what the law's fixed state bears -/
structure Off (L lw lp lm a : Addr) : Prop where
  c1 : L + 1 ≠ a
  c2 : L + 1 + 1 ≠ a
  c3 : L + 1 + 1 + 1 ≠ a
  c4 : L + 1 + 1 + 1 + 1 ≠ a
  w : lw ≠ a
  p : lp ≠ a
  m : lm ≠ a
theorem LawA.off {g hp : Heap} {L : Addr} {h wd low sz : Nat} {ws : List Nat} {cs : List Pt} {lw lp lm a : Addr} {m : Str → Option Value} {nw : Led} {o : Obj} (A : LawA L h wd low sz ws cs lw lp lm m nw) (N : News g L hp nw) (ha : (a, o) ∈ nw) (hd : ∀ c, o.data ≠ .cell c) (hw : lw ≠ a) (hpp : lp ≠ a) (hm : lm ≠ a) : Off L lw lp lm a := by
  obtain ⟨o1, t1, a1, d1⟩ := A.cHigh
  obtain ⟨o2, t2, a2, d2⟩ := A.cLow
  obtain ⟨o3, a3, d3⟩ := A.cWord
  obtain ⟨o4, a4, d4⟩ := A.cMarks
  exact ⟨led_ned N a1 ha (by rw [d1]; exact (hd _).symm), led_ned N a2 ha (by rw [d2]; exact (hd _).symm), led_ned N a3 ha (by rw [d3]; exact (hd _).symm), led_ned N a4 ha (by rw [d4]; exact (hd _).symm), hw, hpp, hm⟩
theorem LawA.offN {g hp : Heap} {L : Addr} {h wd low sz : Nat} {ws : List Nat} {cs : List Pt} {lw lp lm a : Addr} {m : Str → Option Value} {nw : Led} {o : Obj} (A : LawA L h wd low sz ws cs lw lp lm m nw) (N : News g L hp nw) (ha : (a, o) ∈ nw) (hd : ∀ c, o.data ≠ .cell c) (hl : .type "list" ≠ o.cls) : Off L lw lp lm a := by
  obtain ⟨vw, n1, hlw, _⟩ := A.word
  obtain ⟨vp, n2, hlp, _⟩ := A.parts
  obtain ⟨vm, n3, hlm, _⟩ := A.marks
  exact A.off N ha hd (led_ne N hlw ha hl) (led_ne N hlp ha hl) (led_ne N hlm ha hl)
theorem Off.at5 {g hp : Heap} {L : Addr} {h wd low sz : Nat} {ws : List Nat} {cs : List Pt} {lw lp lm : Addr} {m : Str → Option Value} {nw : Led} (A : LawA L h wd low sz ws cs lw lp lm m nw) (N : News g L hp nw) : Off L lw lp lm (L + 1 + 1 + 1 + 1 + 1) := by
  obtain ⟨vw, n1, hlw, _⟩ := A.word
  obtain ⟨vp, n2, hlp, _⟩ := A.parts
  obtain ⟨vm, n3, hlm, _⟩ := A.marks
  obtain ⟨o5, v5, h5, d5⟩ := A.cAt
  refine ⟨?_, ?_, ?_, ?_, led_ned N hlw h5 (by rw [d5]; intro e; cases e), led_ned N hlp h5 (by rw [d5]; intro e; cases e), led_ned N hlm h5 (by rw [d5]; intro e; cases e)⟩ <;> simp only [Addr] <;> omega
theorem LawA.step {L : Addr} {h wd low sz : Nat} {ws : List Nat} {cs : List Pt} {lw lp lm : Addr} {m m' : Str → Option Value} {nw nw' : Led} {C : List Addr} (A : LawA L h wd low sz ws cs lw lp lm m nw) (hk : Keep C nw nw') (hC : ∀ a ∈ C, Off L lw lp lm a)
    (t1 : ∃ ps, (76, tabO ps) ∈ nw' ∧ TriplesOk ps.toList) (t2 : ∃ ps, (83, tabO ps) ∈ nw' ∧ TriplesOk ps.toList) (hA : ∃ o v, (L + 1 + 1 + 1 + 1 + 1, o) ∈ nw' ∧ o.data = .cell v)
    (hm : m' (Str.ofString "wide") = m (Str.ofString "wide") ∧ m' (Str.ofString "size") = m (Str.ofString "size") ∧ m' (Str.ofString "parts") = m (Str.ofString "parts") ∧ m' (Str.ofString "text") = m (Str.ofString "text")) : LawA L h wd low sz ws cs lw lp lm m' nw' where
  cHigh := by obtain ⟨o, t, a, b⟩ := A.cHigh; exact ⟨o, t, hk _ a (fun e => (hC _ e).c1 rfl), b⟩
  cLow := by obtain ⟨o, t, a, b⟩ := A.cLow; exact ⟨o, t, hk _ a (fun e => (hC _ e).c2 rfl), b⟩
  cWord := by obtain ⟨o, a, b⟩ := A.cWord; exact ⟨o, hk _ a (fun e => (hC _ e).c3 rfl), b⟩
  cMarks := by obtain ⟨o, a, b⟩ := A.cMarks; exact ⟨o, hk _ a (fun e => (hC _ e).c4 rfl), b⟩
  cAt := hA
  nWide := by rw [hm.1]; exact A.nWide
  nSize := by rw [hm.2.1]; exact A.nSize
  nParts := by rw [hm.2.2.1]; exact A.nParts
  nText := by rw [hm.2.2.2]; exact A.nText
  word := by obtain ⟨o, t, a, b⟩ := A.word; exact ⟨o, t, hk _ a (fun e => (hC _ e).w rfl), b⟩
  parts := by obtain ⟨o, t, a, b⟩ := A.parts; exact ⟨o, t, hk _ a (fun e => (hC _ e).p rfl), b⟩
  marks := by obtain ⟨o, t, a, b⟩ := A.marks; exact ⟨o, t, hk _ a (fun e => (hC _ e).m rfl), b⟩
  tab1 := t1
  tab2 := t2
theorem LawA.grow {L : Addr} {h wd low sz : Nat} {ws : List Nat} {cs : List Pt} {lw lp lm : Addr} {m m' : Str → Option Value} {nw nw' : Led} (A : LawA L h wd low sz ws cs lw lp lm m nw) (hk : ∀ p ∈ nw, p ∈ nw')
    (hm : m' (Str.ofString "wide") = m (Str.ofString "wide") ∧ m' (Str.ofString "size") = m (Str.ofString "size") ∧ m' (Str.ofString "parts") = m (Str.ofString "parts") ∧ m' (Str.ofString "text") = m (Str.ofString "text")) : LawA L h wd low sz ws cs lw lp lm m' nw' :=
  A.step (C := []) (fun p hp _ => hk p hp) (fun _ h => nomatch h) (by obtain ⟨ps, a, b⟩ := A.tab1; exact ⟨ps, hk _ a, b⟩) (by obtain ⟨ps, a, b⟩ := A.tab2; exact ⟨ps, hk _ a, b⟩) (by obtain ⟨o, v, a, b⟩ := A.cAt; exact ⟨o, v, hk _ a, b⟩) hm
/-! what no row is made of -/
structure NotRow (o : Obj) : Prop where
  acc : ∀ dx its n, o ≠ accO dx its n
  size : ∀ hh tk k t, o ≠ sizeO hh tk k t
  pair : ∀ a b t u, o ≠ pairO a b t u
theorem NotRow.tab (ps : Array Value) : NotRow (tabO ps) := ⟨fun _ _ _ e => (by cases e), fun _ _ _ _ e => (by cases e), fun _ _ _ _ e => by cases e⟩
theorem NotRow.list (v : Array Value) (n : Nat) : NotRow (listOf v n) := ⟨fun _ _ _ e => (by cases e), fun _ _ _ _ e => (by have h := congrArg Obj.data e; cases h), fun _ _ _ _ e => absurd (Value.type.inj (congrArg Obj.cls e)) (by decide)⟩
theorem NotRow.cell {o : Obj} {v : Option Value} (h : o.data = .cell v) : NotRow o := ⟨fun _ _ _ e => (by rw [e] at h; cases h), fun _ _ _ _ e => (by rw [e] at h; cases h), fun _ _ _ _ e => by rw [e] at h; cases h⟩
theorem led_same {g hh : Heap} {L a : Addr} {o1 o2 : Obj} {nw : Led} (N : News g L hh nw) (h1 : (a, o1) ∈ nw) (h2 : (a, o2) ∈ nw) : o1 = o2 := by
  have e1 := (N _ h1).1
  have e2 := (N _ h2).1
  rw [e1] at e2
  exact Option.some.inj e2
theorem PairsIn.offC {g hh : Heap} {L : Addr} {nw nw' : Led} {C : List Addr} {vs : List Value} {xs : List (Str × Str)} (N : News g L hh nw) (hC : ∀ a ∈ C, ∃ o, (a, o) ∈ nw ∧ NotRow o) (hk : Keep C nw nw') (hp : PairsIn nw vs xs) : PairsIn nw' vs xs :=
  ⟨hp.1, fun i p e => by
    obtain ⟨q, t, u, e1, e2⟩ := hp.2 i p e
    refine ⟨q, t, u, e1, hk _ e2 fun hq => ?_⟩
    obtain ⟨o, h1, h2⟩ := hC _ hq
    exact h2.pair _ _ _ _ (led_same N h1 e2)⟩
theorem RowsIn.offC {g hh : Heap} {L : Addr} {nw nw' : Led} {C : List Addr} {xs : List (Addr × Addr)} {R : List (List (Str × Str))} {ks : List Int} (N : News g L hh nw) (hC : ∀ a ∈ C, ∃ o, (a, o) ∈ nw ∧ NotRow o) (hk : Keep C nw nw') (H : RowsIn nw xs R ks) : RowsIn nw' xs R ks :=
  ⟨H.1, H.2.1, fun i x dx e => by
    obtain ⟨its, n, h1, tk, t, a, b, c⟩ := H.2.2 i x dx e
    refine ⟨its, n, h1, tk, t, hk _ a fun hq => ?_, hk _ b fun hq => ?_, c.offC N hC hk⟩
    · obtain ⟨o, h1, h2⟩ := hC _ hq
      exact h2.acc _ _ _ (led_same N h1 a)
    · obtain ⟨o, h1, h2⟩ := hC _ hq
      exact h2.size _ _ _ _ (led_same N h1 b)⟩
theorem RowsIn.monoD {nw nw' : Led} {xs : List (Addr × Addr)} {R : List (List (Str × Str))} {ks : List Int} (H : RowsIn nw xs R ks) (k : ∀ p ∈ nw, dataO p → p ∈ nw') : RowsIn nw' xs R ks :=
  ⟨H.1, H.2.1, fun i x dx e => by
    obtain ⟨its, n, h1, tk, t, a, b, c⟩ := H.2.2 i x dx e
    exact ⟨its, n, h1, tk, t, k _ a (.inr (.inr (.inr (.inl rfl)))), k _ b (.inr (.inr (.inl rfl))), c.mono fun p hp ht => k p hp (.inr (.inl ht.1))⟩⟩
theorem RowsIn.snoc {nw : Led} {xs : List (Addr × Addr)} {R : List (List (Str × Str))} {k : Int} {n : Nat} {x dx : Addr} {its : Array Value} {n1 : Nat} {hh : Int} {tk t : Tok} {r : List (Str × Str)} (H : RowsIn nw xs R (List.replicate n k)) (hn : R.length = n) (hx : ∀ p ∈ xs, p.1 ≠ x)
    (h1 : (x, accO dx its n1) ∈ nw) (h2 : (dx, sizeO hh tk k t) ∈ nw) (h3 : PairsIn nw its.toList r) : RowsIn nw (xs ++ [(x, dx)]) (R ++ [r]) (List.replicate (n + 1) k) := by
  have hl : xs.length = n := by rw [H.1, hn]
  have gk : ∀ i, i < n + 1 → (List.replicate (n + 1) k).getD i 0 = k := fun i hi => by rw [List.getD_eq_getElem?_getD, List.getElem?_replicate, if_pos hi]; rfl
  have gk' : ∀ i, i < n → (List.replicate n k).getD i 0 = k := fun i hi => by rw [List.getD_eq_getElem?_getD, List.getElem?_replicate, if_pos hi]; rfl
  have cases_ : ∀ (i : Nat) (q : Addr × Addr), (xs ++ [(x, dx)])[i]? = some q → (i < n ∧ xs[i]? = some q) ∨ (i = n ∧ q = (x, dx)) := fun i q e => by
    rcases Nat.lt_or_ge i n with h | h
    · exact .inl ⟨h, by rwa [List.getElem?_append_left (by omega)] at e⟩
    · rw [List.getElem?_append_right (by omega)] at e
      have h0 : i - xs.length = 0 := by
        rcases Nat.eq_zero_or_pos (i - xs.length) with h | h
        · exact h
        · rw [List.getElem?_eq_none (by simp; omega)] at e; cases e
      rw [h0] at e
      simp at e
      exact .inr ⟨by omega, e.symm⟩
  refine ⟨by simp [H.1], fun i j p q hp hq hij => ?_, fun i y dy e => ?_⟩
  · rcases cases_ i p hp with ⟨a1, a2⟩ | ⟨a1, rfl⟩ <;> rcases cases_ j q hq with ⟨b1, b2⟩ | ⟨b1, rfl⟩
    · exact H.2.1 i j p q a2 b2 hij
    · exact hx p (List.mem_of_getElem? a2)
    · exact (hx q (List.mem_of_getElem? b2)).symm
    · omega
  · rcases cases_ i _ e with ⟨a1, a2⟩ | ⟨a1, a2⟩
    · obtain ⟨its', n', h', tk', t', c1, c2, c3⟩ := H.2.2 i y dy a2
      refine ⟨its', n', h', tk', t', c1, ?_, ?_⟩
      · rw [gk i (by omega)]; rw [gk' i a1] at c2; exact c2
      · rw [List.getD_eq_getElem?_getD, List.getElem?_append_left (by omega), ← List.getD_eq_getElem?_getD]; exact c3
    · cases a2
      subst a1
      refine ⟨its, n1, hh, tk, t, h1, ?_, ?_⟩
      · rw [gk i (by omega)]; exact h2
      · rw [List.getD_eq_getElem?_getD, List.getElem?_append_right (by omega), hn]; simpa using h3
/-- the dicts of the rows differ -/
def D2 (xs : List (Addr × Addr)) : Prop := ∀ (i j : Nat) (p q : Addr × Addr), xs[i]? = some p → xs[j]? = some q → i ≠ j → p.2 ≠ q.2
theorem D2.snoc {xs : List (Addr × Addr)} {x dx : Addr} (H : D2 xs) (hx : ∀ q ∈ xs, q.2 ≠ dx) : D2 (xs ++ [(x, dx)]) := by
  have cases_ : ∀ (i : Nat) (q : Addr × Addr), (xs ++ [(x, dx)])[i]? = some q → xs[i]? = some q ∨ (i = xs.length ∧ q = (x, dx)) := fun i q e => by
    rcases Nat.lt_or_ge i xs.length with h | h
    · exact .inl (by rwa [List.getElem?_append_left h] at e)
    · rw [List.getElem?_append_right h] at e
      have h0 : i - xs.length = 0 := by
        rcases Nat.eq_zero_or_pos (i - xs.length) with h | h
        · exact h
        · rw [List.getElem?_eq_none (by simp; omega)] at e; cases e
      rw [h0] at e
      simp at e
      exact .inr ⟨by omega, e.symm⟩
  intro i j p q hp hq hij
  rcases cases_ i p hp with a | ⟨a, rfl⟩ <;> rcases cases_ j q hq with b | ⟨b, rfl⟩
  · exact H i j p q a b hij
  · exact hx p (List.mem_of_getElem? a)
  · exact (hx q (List.mem_of_getElem? b)).symm
  · omega
theorem rowsW_take {low h i : Nat} {ws : List Nat} (hi : i < h) : (rowsW low h ws).take (i + 1) = (rowsW low h ws).take i ++ [rowW low ws i] := by
  rw [List.take_add_one, rowsW, List.getElem?_map, List.getElem?_range hi]; rfl
theorem rowsW_len (low h : Nat) (ws : List Nat) : (rowsW low h ws).length = h := by simp [rowsW]
inductive S10 (L : Addr) (h wd low sz : Nat) (ws : List Nat) (cs : List Pt) (lw lp lm lr : Addr) (i : Nat) (m : Str → Option Value) (nw : Led) : Prop
  | mk (xs : List (Addr × Addr)) (c : Nat) (_ : LawA L h wd low sz ws cs lw lp lm m nw) (_ : m (Str.ofString "rows") = some (.ref lr)) (_ : (lr, listOf (xs.map fun p => Value.ref p.1).toArray c) ∈ nw) (_ : RowsIn nw xs ((rowsW low h ws).take i) (List.replicate i (sz : Int))) (_ : D2 xs)
section
variable {w : World} {p : PySem.Program} {loose : List Str} {mean : ExcName → Option Value} {mg mb : Str → Option Value} {L a : Addr} {cd : Value} {h₀ : Heap} {m : Str → Option Value} {s : Shared} {Q : Flow → Shared → Prop} {nw : Led}
set_option maxHeartbeats 4000000 in
theorem law_s10 (B : Below callerA h₀ [] h₀) (F : Fr h₀ L s.heap m) (X : (hd.heap_39 w.params).In h₀) (N : News h₀ L s.heap nw) (T : Top p loose mean mg mb h₀) (X24 : h₀.get? 24 = some (set24 w.params))
   {h wd low sz : Nat} {ws : List Nat} {cs : List Pt} {lw lp lm lr : Addr} {nr : Nat} (hok : LawOk h wd low sz ws cs) (A : LawA L h wd low sz ws cs lw lp lm m nw) (hmr : m (Str.ofString "rows") = some (.ref lr)) (hr : (lr, listOf #[] nr) ∈ nw) (hr1 : lw ≠ lr ∧ lp ≠ lr ∧ lm ≠ lr)
   (next : ∀ xs nr' m' nw' h' tk gs, Bare s.gens gs → Fr h₀ L h' m' → News h₀ L h' nw' → LawA L h wd low sz ws cs lw lp lm m' nw' → m' (Str.ofString "rows") = some (.ref lr) → (lr, listOf (xs.map fun p => Value.ref p.1).toArray nr') ∈ nw' → RowsIn nw' xs (rowsW low h ws) (List.replicate h (sz : Int)) → D2 xs →
      wpAny (model Challenge.rw_wo0004_01.row.prog w) (callerA.deeper (lawEnv L a cd)) (execs (lawBody.drop 11) (lawEnv L a cd)) Q (fun _ _ => False) { s with heap := h', toks := tk, gens := gs }) :
   wpAny (model Challenge.rw_wo0004_01.row.prog w) (callerA.deeper (lawEnv L a cd)) (execs (lawBody.drop 10) (lawEnv L a cd)) Q (fun _ _ => False) s := by
  have hb : h ≤ 5 ∧ wd ≤ 4 := shapes_small hok.shape
  obtain ⟨o1, t1, hc1, hd1⟩ := A.cHigh
  obtain ⟨oA0, vA0, hcA0, hdA0⟩ := A.cAt
  obtain ⟨ps1, ht1, hp1⟩ := A.tab1
  obtain ⟨ps2, ht2, hp2⟩ := A.tab2
  obtain ⟨rest, hrest⟩ : ∃ r, r = lawBody.drop 11 := ⟨_, rfl⟩
  obtain ⟨sc, hsc⟩ : ∃ sc, sc = lawScope := ⟨_, rfl⟩
  obtain ⟨st10, hst10⟩ : ∃ x, x = lawAt 10 := ⟨_, rfl⟩
  rw [show lawBody.drop 10 = st10 :: rest from by rw [hrest, hst10]; exact rfl]
  unfold lawEnv
  rw [← hsc]
  conv at hst10 => rhs; whnf
  conv at hsc => rhs; whnf
  subst hst10 hsc
  k_steps
  rename_i h2 tk2 t₁ u₁ v₁ hr2 F2 N2 hk2
  unfold Hold
  refine forO_range (n := h) rfl hr2 (rng0 rfl (by omega)).1 (rng0 rfl (by omega)).2 F2 N2 [76, 83, lr, L + 1 + 1 + 1 + 1 + 1]
    (S10 L h wd low sz ws cs lw lp lm lr) ?_ ?_ ?_ ?_
  · exact ⟨[], nr, A, hmr, hr, by simp [RowsIn], fun i j p q e => by simp at e⟩
  · rintro i m' nw1 nw2 ⟨xs, c, a1, a2, a3, a4, a5⟩ k
    exact ⟨xs, c, A.mono a1 fun p hp hq => k p hp (.inr hq), a2, k _ a3 (.inl (.inl rfl)), a4.monoD fun p hp hd => k p hp (.inl hd), a5⟩
  · rintro i u I oI m₁ nw1 h1 tk1 gs1 hG1 hi ⟨xs, c, A1, hr', hrl, hR, hD⟩ K1 hlt ho F1 N1
    obtain ⟨oA, vA, hcA, hdA⟩ := A1.cAt
    generalize hbd : (forBody 10) = bd
    show wpAny _ _ (assign _ _ _) (fun _ s₂ => wpAny _ _ (execs (forBody 10) (lawEnv L a cd)) _ _ s₂) _ _
    rw [hbd]
    k_steps
    rename_i h3 oN F3 N3 dN
    have hN1 : News h₀ L h1 ((I, oI) :: nw1) := N1
    have F3' : Fr h₀ L h3 m₁ := F3
    rw [Int.zero_add] at dN
    have hcA' : (L + 1 + 1 + 1 + 1 + 1, oN) ∈ updL (L + 1 + 1 + 1 + 1 + 1) oN ((I, oI) :: nw1) := mem_updL_self (List.mem_cons_of_mem _ hcA)
    have kA : Keep [L + 1 + 1 + 1 + 1 + 1] nw1 (updL (L + 1 + 1 + 1 + 1 + 1) oN ((I, oI) :: nw1)) := fun p hp hn => mem_updL_ne (List.mem_cons_of_mem _ hp) (by simpa using hn)
    have hI : (I, oI) ∈ updL (L + 1 + 1 + 1 + 1 + 1) oN ((I, oI) :: nw1) := mem_updL_ne (List.mem_cons_self ..) (Ne.symm (Nat.ne_of_lt (hlt _ hcA0)))
    have hN1' : News h₀ L h1 nw1 := fun p hp => hN1 p (List.mem_cons_of_mem _ hp)
    have at5 : ∀ a ∈ [L + 1 + 1 + 1 + 1 + 1], ∃ o, (a, o) ∈ nw1 ∧ NotRow o := fun a ha => by rw [List.mem_singleton.mp ha]; exact ⟨oA, hcA, NotRow.cell hdA⟩
    have n5 : ∀ (b : Addr) (o : Obj), (b, o) ∈ nw1 → o.data ≠ oA.data → b ≠ L + 1 + 1 + 1 + 1 + 1 := fun b o hb hd => led_ned hN1' hb hcA hd
    obtain ⟨qs1, hq1, hqt1⟩ := A1.tab1
    obtain ⟨qs2, hq2, hqt2⟩ := A1.tab2
    have A2 : LawA L h wd low sz ws cs lw lp lm m₁ (updL (L + 1 + 1 + 1 + 1 + 1) oN ((I, oI) :: nw1)) := A1.step kA (fun a ha => by rw [List.mem_singleton.mp ha]; exact Off.at5 A1 hN1')
      ⟨qs1, kA.mem1 hq1 (n5 _ _ hq1 (by rw [hdA]; intro e; cases e)), hqt1⟩ ⟨qs2, kA.mem1 hq2 (n5 _ _ hq2 (by rw [hdA]; intro e; cases e)), hqt2⟩ ⟨oN, _, hcA', dN⟩ ⟨rfl, rfl, rfl, rfl⟩
    have hrl2 := kA.mem1 hrl (n5 _ _ hrl (by rw [hdA]; intro e; cases e))
    have hR2 := hR.offC hN1' at5 kA
    generalize updL (L + 1 + 1 + 1 + 1 + 1) oN ((I, oI) :: nw1) = nwA at *
    subst hbd
    show wpAny _ _ (execs ((forBody 10).drop 0) _) _ _ _
    refine law_great B F3' X N3 T X24 hok A2 hi hcA' dN ?_
    intro m4 nw4 h4 tk4 gs4 hG4 F4 N4 K4 nm4
    have A4 := A2.grow (m' := m4) (fun p hp => K4.mem0 hp) ⟨nm4 _ (by decide), nm4 _ (by decide), nm4 _ (by decide), nm4 _ (by decide)⟩
    refine law_rowb B F4 X N4 T X24 hok A4 hi (K4.mem0 hcA') dN ?_
    intro x dx its n hh tkz tz m6 nw6 h6 tk6 gs6 hG6 F6 N6 K6 hfr e6 hx hdx hp nm6
    have A6 := A4.grow (m' := m6) (fun p hp => K6.mem0 hp) ⟨nm6 _ (by decide) (by decide) (by decide), nm6 _ (by decide) (by decide) (by decide), nm6 _ (by decide) (by decide) (by decide), nm6 _ (by decide) (by decide) (by decide)⟩
    have hrl6 := K6.mem0 (K4.mem0 hrl2)
    have hrlen : xs.length ≤ 5 := by rw [hR.1, List.length_take]; omega
    refine law_told B F6 X N6 T X24 hok A6 hi (K6.mem0 (K4.mem0 hcA')) dN e6 (lr := lr) (by rw [nm6 _ (by decide) (by decide) (by decide), nm4 _ (by decide)]; exact hr') hx hdx hp hrl6 (by rw [List.length_map]; omega) ?_
    intro nr' m8 nw8 h8 tk8 gs8 hG8 F8 N8 K8 hr8 t81 t82 nm8
    obtain ⟨rs1, hs1, _⟩ := A6.tab1
    obtain ⟨rs2, hs2, _⟩ := A6.tab2
    have hC8 : ∀ a ∈ [76, 83, lr], ∃ o, (a, o) ∈ nw6 ∧ NotRow o := fun a ha => by
      rcases List.mem_cons.mp ha with rfl | ha
      · exact ⟨_, hs1, NotRow.tab _⟩
      rcases List.mem_cons.mp ha with rfl | ha
      · exact ⟨_, hs2, NotRow.tab _⟩
      rw [List.mem_singleton.mp ha]
      exact ⟨_, hrl6, NotRow.list _ _⟩
    have hO8 : ∀ a ∈ [76, 83, lr], Off L lw lp lm a := fun a ha => by
      rcases List.mem_cons.mp ha with rfl | ha
      · exact A6.offN N6 hs1 (fun c e => by cases e) (by intro e; cases e)
      rcases List.mem_cons.mp ha with rfl | ha
      · exact A6.offN N6 hs2 (fun c e => by cases e) (by intro e; cases e)
      rw [List.mem_singleton.mp ha]
      exact A6.off N6 hrl6 (fun c e => by cases e) hr1.1 hr1.2.1 hr1.2.2
    have n56 : ∀ (b : Addr) (o : Obj), (b, o) ∈ nw6 → o.data ≠ oN.data → L + 1 + 1 + 1 + 1 + 1 ≠ b := fun b o hb hd => (led_ned N6 hb (K6.mem0 (K4.mem0 hcA')) hd).symm
    have h58 : L + 1 + 1 + 1 + 1 + 1 ∉ [76, 83, lr] := fun e => by
      rcases List.mem_cons.mp e with e | e
      · exact n56 _ _ hs1 (by rw [dN]; intro e; cases e) e
      rcases List.mem_cons.mp e with e | e
      · exact n56 _ _ hs2 (by rw [dN]; intro e; cases e) e
      exact n56 _ _ hrl6 (by rw [dN]; intro e; cases e) (List.mem_singleton.mp e)
    have A8 := A6.step (m' := m8) K8 hO8 t81 t82 ⟨oN, _, K8 _ (K6.mem0 (K4.mem0 hcA')) h58, dN⟩ ⟨nm8 _ (by decide), nm8 _ (by decide), nm8 _ (by decide), nm8 _ (by decide)⟩
    have hR6 := hR2.sub (fun p hp => K6.mem0 (K4.mem0 hp))
    have hxn : ∀ q ∈ xs, q.1 ≠ x := fun q hq => by
      obtain ⟨j, hj, he⟩ := List.mem_iff_getElem.mp hq
      obtain ⟨its9, n9, _, _, _, h9, _⟩ := hR2.2.2 j q.1 q.2 (by rw [List.getElem?_eq_getElem hj, he])
      exact Nat.ne_of_lt (hfr _ (K4.mem0 h9)).2
    have hdn : ∀ q ∈ xs, q.2 ≠ dx := fun q hq => by
      obtain ⟨j, hj, he⟩ := List.mem_iff_getElem.mp hq
      obtain ⟨its9, n9, _, _, _, _, h9, _⟩ := hR2.2.2 j q.1 q.2 (by rw [List.getElem?_eq_getElem hj, he])
      exact Nat.ne_of_lt (hfr _ (K4.mem0 h9)).1
    have hR6' := hR6.snoc (by rw [List.length_take, rowsW_len]; omega) hxn hx hdx hp
    rw [← rowsW_take hi] at hR6'
    have hR8 := hR6'.offC N6 hC8 K8
    dsimp only [TPost]
    refine TEnd.intro F8 N8 (List.forall_mem_cons.mpr ⟨?n1, fun _ h => nomatch h⟩) (fun p hp hn => ?n2) ⟨xs ++ [(x, dx)], nr', A8, ?n3, ?n4, hR8, hD.snoc hdn⟩
    case n1 =>
      refine K8 _ (K6.mem0 (K4.mem0 hI)) fun e => ?_
      rcases List.mem_cons.mp e with e | e
      · exact Nat.ne_of_lt (hlt _ ht1) e.symm
      rcases List.mem_cons.mp e with e | e
      · exact Nat.ne_of_lt (hlt _ ht2) e.symm
      exact Nat.ne_of_lt (hlt _ hr) (List.mem_singleton.mp e).symm
    case n2 =>
      refine K8 _ (K6.mem0 (K4.mem0 (kA.mem1 (K1 p hp hn) fun e => hn (by rw [e]; simp)))) fun e => hn ?_
      exact List.mem_append_left [L + 1 + 1 + 1 + 1 + 1] e
    case n3 => rw [nm8 _ (by decide), nm6 _ (by decide) (by decide) (by decide), nm4 _ (by decide)]; exact hr'
    case n4 => rw [List.map_append]; exact hr8
  · rintro m₁ nw1 h1 tk1 gs1 hG1 ⟨xs, c, A1, hr', hrl, hR, hD⟩ K1 F1 N1
    subst hrest
    dsimp only
    rw [List.take_of_length_le (by rw [rowsW_len]; exact Nat.le_refl _)] at hR
    exact next xs c m₁ nw1 h1 _ _ (by exact hG1) F1 N1 A1 hr' hrl hR hD
end
/-! what the slides tell, decided -/
def pairFit (p : Str × Str) : Bool := PyData.strOk p.1 && PyData.strOk p.2 && decide (p.1.length ≤ 1000) && decide (p.2.length ≤ 1000)
def rowsFit (h : Nat) (R : List (List (Str × Str))) : Bool := decide (R.length = h) && decide ((R.map List.length).sum ≤ 100) && R.all fun r => r.all pairFit
def chainOk (low h : Nat) : Nat → List (List (Str × Str)) → List Nat → Bool
  | _, R, [] => rowsFit h R && decide (R = List.replicate h [])
  | k, R, w :: ws => rowsFit h R && decide ((R.getD 0 [])[0]? = some (sgn low, sgn (65 + k))) && decide ((slideF (marksL low h) R).1 = h - 1 - w) && chainOk low h (k + 1) (slideF (marksL low h) R).2 ws
theorem chain_a0 : ∀ ws ∈ wGen 3 3 9, chainOk 65529 3 0 (rowsW 65529 3 ws) ws = true := by decide +kernel
theorem chain_a1 : ∀ ws ∈ wGen 3 3 9, chainOk 65530 3 0 (rowsW 65530 3 ws) ws = true := by decide +kernel
theorem chain_a2 : ∀ ws ∈ wGen 3 3 9, chainOk 65531 3 0 (rowsW 65531 3 ws) ws = true := by decide +kernel
theorem chain_b0 : ∀ ws ∈ wGen 4 2 8, chainOk 65529 4 0 (rowsW 65529 4 ws) ws = true := by decide +kernel
theorem chain_b1 : ∀ ws ∈ wGen 4 2 8, chainOk 65530 4 0 (rowsW 65530 4 ws) ws = true := by decide +kernel
theorem chain_c0 : ∀ ws ∈ wGen 2 4 8, chainOk 65529 2 0 (rowsW 65529 2 ws) ws = true := by decide +kernel
theorem chain_c1 : ∀ ws ∈ wGen 2 4 8, chainOk 65530 2 0 (rowsW 65530 2 ws) ws = true := by decide +kernel
theorem chain_c2 : ∀ ws ∈ wGen 2 4 8, chainOk 65531 2 0 (rowsW 65531 2 ws) ws = true := by decide +kernel
theorem chain_c3 : ∀ ws ∈ wGen 2 4 8, chainOk 65532 2 0 (rowsW 65532 2 ws) ws = true := by decide +kernel
theorem chain_d0 : ∀ ws ∈ wGen 5 2 10, chainOk 65529 5 0 (rowsW 65529 5 ws) ws = true := by decide +kernel
theorem chain_ok {h wd low sz : Nat} {ws : List Nat} {cs : List Pt} (hok : LawOk h wd low sz ws cs) : chainOk low h 0 (rowsW low h ws) ws = true :=
  hok.cases (P := fun h _ low ws => chainOk low h 0 (rowsW low h ws) ws = true) chain_a0 chain_a1 chain_a2 chain_b0 chain_b1 chain_c0 chain_c1 chain_c2 chain_c3 chain_d0
theorem rowsFit_all {h : Nat} {R : List (List (Str × Str))} (hf : rowsFit h R = true) : R.length = h ∧ (R.map List.length).sum ≤ 100 ∧ (∀ r ∈ R, ∀ p ∈ r, PairOk p) ∧ ∀ r ∈ R, ∀ p ∈ r, p.1.length ≤ 1000 ∧ p.2.length ≤ 1000 := by
  simp only [rowsFit, Bool.and_eq_true, decide_eq_true_eq, List.all_eq_true, pairFit] at hf
  exact ⟨hf.1.1, hf.1.2, fun r hr p hp => ⟨(hf.2 r hr p hp).1.1.1, (hf.2 r hr p hp).1.1.2⟩, fun r hr p hp => ⟨(hf.2 r hr p hp).1.2, (hf.2 r hr p hp).2⟩⟩
section
open Lx
theorem RowsIn.notOff {nw : Led} {xs : List (Addr × Addr)} {R : List (List (Str × Str))} {ks : List Int} (H : RowsIn nw xs R ks) {a : Addr} (ha : a ∈ xs.map (·.1)) : ∃ dx its n, (a, accO dx its n) ∈ nw := by
  obtain ⟨q, hq, rfl⟩ := List.mem_map.mp ha
  obtain ⟨j, hj, he⟩ := List.mem_iff_getElem.mp hq
  obtain ⟨its, n, _, _, _, h, _⟩ := H.2.2 j q.1 q.2 (by rw [List.getElem?_eq_getElem hj, he])
  exact ⟨q.2, its, n, h⟩
theorem RowsIn.off {g hp : Heap} {L : Addr} {h wd low sz : Nat} {ws : List Nat} {cs : List Pt} {lw lp lm : Addr} {m : Str → Option Value} {nw : Led} {xs : List (Addr × Addr)} {R : List (List (Str × Str))} {ks : List Int} (H : RowsIn nw xs R ks) (A : LawA L h wd low sz ws cs lw lp lm m nw) (N : News g L hp nw) : ∀ a ∈ xs.map (·.1), Off L lw lp lm a := fun a ha => by
  obtain ⟨dx, its, n, hm⟩ := H.notOff ha
  exact A.offN N hm (fun c e => by cases e) (by intro e; cases e)
theorem RowsIn.ne {g hp : Heap} {L : Addr} {nw : Led} {xs : List (Addr × Addr)} {R : List (List (Str × Str))} {ks : List Int} (H : RowsIn nw xs R ks) (N : News g L hp nw) {b : Addr} {o : Obj} (hb : (b, o) ∈ nw) (ho : ∀ dx its n, o ≠ accO dx its n) : b ∉ xs.map (·.1) := fun ha => by
  obtain ⟨dx, its, n, hm⟩ := H.notOff ha
  exact ho _ _ _ (led_same N hb hm)
inductive S11 (L : Addr) (h wd low sz : Nat) (ws : List Nat) (cs : List Pt) (lw lp lm lr : Addr) (nr : Nat) (xs : List (Addr × Addr)) (le : Addr) (k : Nat) (m : Str → Option Value) (nw : Led) : Prop
  | mk (R : List (List (Str × Str))) (vs : List Value) (c : Nat) (_ : LawA L h wd low sz ws cs lw lp lm m nw) (_ : m (Str.ofString "rows") = some (.ref lr)) (_ : m (Str.ofString "ends") = some (.ref le)) (_ : (lr, listOf (xs.map fun p => Value.ref p.1).toArray nr) ∈ nw) (_ : (le, listOf vs.toArray c) ∈ nw) (_ : IntsAre vs ((ws.take k).map fun r : Nat => (h : Int) - 1 - (r : Int))) (_ : RowsIn nw xs R (List.replicate h (sz : Int))) (_ : chainOk low h k R (ws.drop k) = true)
section
variable {w : World} {p : PySem.Program} {loose : List Str} {mean : ExcName → Option Value} {mg mb : Str → Option Value} {L a : Addr} {cd : Value} {h₀ : Heap} {m : Str → Option Value} {s : Shared} {Q : Flow → Shared → Prop} {nw : Led}
set_option maxHeartbeats 4000000 in
theorem law_s11 (B : Below callerA h₀ [] h₀) (F : Fr h₀ L s.heap m) (X : (hd.heap_39 w.params).In h₀) (N : News h₀ L s.heap nw) (T : Top p loose mean mg mb h₀) (X24 : h₀.get? 24 = some (set24 w.params))
   {h wd low sz : Nat} {ws : List Nat} {cs : List Pt} {lw lp lm lr : Addr} {nr : Nat} {xs : List (Addr × Addr)} (hok : LawOk h wd low sz ws cs) (A : LawA L h wd low sz ws cs lw lp lm m nw) (hmr : m (Str.ofString "rows") = some (.ref lr)) (hr : (lr, listOf (xs.map fun p => Value.ref p.1).toArray nr) ∈ nw) (hR : RowsIn nw xs (rowsW low h ws) (List.replicate h (sz : Int)))
   (next : ∀ m' nw' h' tk gs, Bare s.gens gs → Fr h₀ L h' m' → News h₀ L h' nw' → LawA L h wd low sz ws cs lw lp lm m' nw' → m' (Str.ofString "rows") = some (.ref lr) → (lr, listOf (xs.map fun p => Value.ref p.1).toArray nr) ∈ nw' → RowsIn nw' xs (List.replicate h []) (List.replicate h (sz : Int)) →
      wpAny (model Challenge.rw_wo0004_01.row.prog w) (callerA.deeper (lawEnv L a cd)) (execs (lawBody.drop 14) (lawEnv L a cd)) Q (fun _ _ => False) { s with heap := h', toks := tk, gens := gs }) :
   wpAny (model Challenge.rw_wo0004_01.row.prog w) (callerA.deeper (lawEnv L a cd)) (execs (lawBody.drop 11) (lawEnv L a cd)) Q (fun _ _ => False) s := by
  have hb : h ≤ 5 ∧ wd ≤ 4 := shapes_small hok.shape
  obtain ⟨o1, t1, hc1, hd1⟩ := A.cHigh
  obtain ⟨tw, hmw⟩ := A.nWide
  have hwl : ws.length = h * wd := wGen_len hok.word
  have hm10 : h * wd ≤ 20 := Nat.le_trans (Nat.mul_le_mul hb.1 hb.2) (by decide)
  have hhw : (h : Int) * (wd : Int) = ((h * wd : Nat) : Int) := by simp
  obtain ⟨rest, hrest⟩ : ∃ r, r = lawBody.drop 14 := ⟨_, rfl⟩
  obtain ⟨sc, hsc⟩ : ∃ sc, sc = lawScope := ⟨_, rfl⟩
  obtain ⟨st11, hst11⟩ : ∃ x, x = lawAt 11 := ⟨_, rfl⟩
  obtain ⟨st12, hst12⟩ : ∃ x, x = lawAt 12 := ⟨_, rfl⟩
  obtain ⟨st13, hst13⟩ : ∃ x, x = lawAt 13 := ⟨_, rfl⟩
  rw [show lawBody.drop 11 = st11 :: st12 :: st13 :: rest from by rw [hrest, hst11, hst12, hst13]; exact rfl]
  unfold lawEnv
  rw [← hsc]
  conv at hst11 => rhs; whnf
  conv at hst12 => rhs; whnf
  conv at hst13 => rhs; whnf
  conv at hsc => rhs; whnf
  subst hst11 hst12 hst13 hsc
  k_steps
  rename_i le h1 ll1 h2 F2 N2 h3 tk3 t₁ u₁ v₁ hr3 F3 N3 hk3
  unfold Hold
  have hnr : ∀ y, y ≠ Str.ofString "ends" → (fun y => if y = Str.ofString "ends" then some (Value.ref le) else m y) y = m y := fun y hy => if_neg hy
  have A3 : LawA L h wd low sz ws cs lw lp lm (fun y => if y = Str.ofString "ends" then some (Value.ref le) else m y) ((le, W.listOf #[] 0) :: nw) := A.grow (fun p hp => List.mem_cons_of_mem _ hp) ⟨hnr _ (by decide), hnr _ (by decide), hnr _ (by decide), hnr _ (by decide)⟩
  have hle : lw ≠ le ∧ lp ≠ le ∧ lm ≠ le ∧ lr ≠ le := by
    obtain ⟨vw, n1, hlw, _⟩ := A.word
    obtain ⟨vp, n2, hlp, _⟩ := A.parts
    obtain ⟨vm, n3, hlm, _⟩ := A.marks
    exact ⟨Nat.ne_of_lt (ll1 _ hlw), Nat.ne_of_lt (ll1 _ hlp), Nat.ne_of_lt (ll1 _ hlm), Nat.ne_of_lt (ll1 _ hr)⟩
  refine forO_range (n := h * wd) rfl hr3 (rng0 hhw (by omega)).1 (rng0 hhw (by omega)).2 F3 N3 (le :: xs.map (·.1))
    (S11 L h wd low sz ws cs lw lp lm lr nr xs le) ?_ ?_ ?_ ?_
  · exact ⟨_, [], 0, A3, hmr, rfl, List.mem_cons_of_mem _ hr, List.mem_cons_self .., .nil, hR.sub fun p hp => List.mem_cons_of_mem _ hp, chain_ok hok⟩
  · rintro k m' nw1 nw2 ⟨R, vs, c, a1, a2, a3, a4, a5, a6, a7, a8⟩ kk
    exact ⟨R, vs, c, A3.mono a1 fun p hp hq => kk p hp (.inr hq), a2, a3, kk _ a4 (.inl (.inl rfl)), kk _ a5 (.inl (.inl rfl)), a6, a7.monoD fun p hp hd => kk p hp (.inl hd), a8⟩
  · rintro k u I oI m₁ nw1 h4 tk4 gs4 hG4 hk ⟨R, vs, c, A4, hmr4, hme4, hr4, he4, hv4, hR4, hch⟩ K4 hlt ho F4 N4
    rw [List.drop_eq_getElem_cons (show k < ws.length by omega)] at hch
    simp only [chainOk, Bool.and_eq_true, decide_eq_true_eq] at hch
    obtain ⟨⟨⟨hfit, h0⟩, hat⟩, hch⟩ := hch
    obtain ⟨hRh, hRs, hRo, hRl⟩ := rowsFit_all hfit
    have hh0 : 0 < h := by have := hok.shape; simp only [shapes, List.mem_cons, Prod.mk.injEq, List.not_mem_nil, or_false] at this; omega
    obtain ⟨x, dx, its, n, hh, tkz, tz, hx, hacc, hdx, hp⟩ := hR4.get (i := 0) (by omega)
    obtain ⟨q, t, u', hq, hqm⟩ := hp.2 0 _ h0
    have hI : ItemAt (xs.map fun p => Value.ref p.1).toArray 0 (.ref x) := ⟨by omega, by omega, by simp [hx]⟩
    have hq0 : its[(0 : Int).toNat]? = some (.ref q) := by simpa using hq
    have hsz : its.size ≤ 1000 := by
      have h9 := hp.1
      have h8 := len_get R 0
      rw [Array.length_toList] at h9; omega
    obtain ⟨o4, hc4, hd4⟩ := A4.cMarks
    obtain ⟨vm, n3, hlm, him⟩ := A4.marks
    have hmo := marks_ok hok
    have hmlen : (marksL low h).length = h := by simp [marksL]
    have hz0 : (0 : Int) ≤ 0 := by omega
    have hzl : (0 : Int) < (marksL low h).length := by rw [hmlen]; omega
    have e1 : sgn low = (marksL low h).getD (Int.toNat 0) ⟨#[]⟩ := (marksL_get (low := low) hh0).symm
    have e2 : sgn (65 + k) = ({ cps := #[((65 : Int) + (0 + (k : Int))).toNat] } : Str) := by rw [show ((65 : Int) + (0 + (k : Int))).toNat = 65 + k by omega]; rfl
    have ho1 : PyData.strOk (sgn low) = true := hmo _ (List.mem_map.mpr ⟨0, List.mem_range.mpr hh0, rfl⟩)
    have ho2 : PyData.strOk (sgn (65 + k)) = true := (hRo _ (by rw [List.getD_eq_getElem?_getD, List.getElem?_eq_getElem (by omega)]; exact List.getElem_mem _) _ (List.mem_of_getElem? h0)).2
    k_steps
    rename_i h5 tk5 t5 D5 h6 F6 N6 ll6
    unfold Hold
    generalize hT5 : ({ cls := .type "tuple", data := .seq #[.str ((marksL low h).getD (Int.toNat 0) ⟨#[]⟩) t5, .str ({ cps := #[((65 : Int) + (0 + (k : Int))).toNat] } : Str) (tk5 + 1 + 1 + 1 + 1 + 1)] } : Obj) = oT at *
    have hu6 : ∀ p ∈ nw1, p ∈ (D5, oT) :: (I, oI) :: nw1 := fun p hp => List.mem_cons_of_mem _ (List.mem_cons_of_mem _ hp)
    have hR6 := hR4.sub hu6
    k_dflt (refine' Spec.use (slide_spec (hu6 _ hr4) (hu6 _ hlm) him hR6 (by omega) (by omega) (by omega) (by rw [hmlen, hRh]) hRo hmo) ?sB ?sF ?sX ?sN ?sT ?s24 ?sK ?sD ?sU ?_; k_extra "x_inv"; k_whole)
    rintro v7 nw7 h7 tk7 gs7 hG7 F7 N7 ⟨⟨t7, e7⟩, hR7, K7⟩
    subst e7
    have hne7 : ∀ (b : Addr) (o : Obj), (b, o) ∈ nw1 → (∀ dx its n, o ≠ accO dx its n) → (b, o) ∈ nw7 := fun b o hb ho => K7 _ (hu6 _ hb) (hR6.ne N6 (hu6 _ hb) ho)
    have he7 := hne7 _ _ he4 (fun _ _ _ e => by cases e)
    have A7 : LawA L h wd low sz ws cs lw lp lm (fun y => if y = Str.ofString "place" then some (Value.int (0 + (k : Int)) u) else m₁ y) nw7 := by
      obtain ⟨ps1, hs1, hq1⟩ := A4.tab1
      obtain ⟨ps2, hs2, hq2⟩ := A4.tab2
      obtain ⟨o5, v5, h5, d5⟩ := A4.cAt
      have A6 := A4.grow (m' := fun y => if y = Str.ofString "place" then some (Value.int (0 + (k : Int)) u) else m₁ y) hu6 ⟨if_neg (by decide), if_neg (by decide), if_neg (by decide), if_neg (by decide)⟩
      exact A6.step K7 (hR6.off A6 N6) ⟨ps1, hne7 _ _ hs1 (fun _ _ _ e => by cases e), hq1⟩ ⟨ps2, hne7 _ _ hs2 (fun _ _ _ e => by cases e), hq2⟩ ⟨o5, v5, hne7 _ _ h5 (fun _ _ _ e => by rw [e] at d5; cases d5), d5⟩ ⟨rfl, rfl, rfl, rfl⟩
    have hlr7 := hne7 _ _ hr4 (fun _ _ _ e => by cases e)
    have hvl : vs.length = k := by rw [ints_len hv4, List.length_map, List.length_take]; omega
    have hvl1 : vs.length ≤ 1000 := by omega
    have hvl2 : vs.length ≤ 100000 := by omega
    have hI7 : (I, oI) ∈ nw7 := K7 _ (List.mem_cons_of_mem _ (List.mem_cons_self ..)) (hR6.ne N6 (List.mem_cons_of_mem _ (List.mem_cons_self ..)) (fun _ _ _ e => by rw [e] at ho; cases ho))
    have hOle : Off L lw lp lm le := A7.off N7 he7 (fun c e => by cases e) hle.1 hle.2.1 hle.2.2.1
    have hRle : ∀ a ∈ [le], ∃ o, (a, o) ∈ nw7 ∧ NotRow o := fun a ha => by rw [List.mem_singleton.mp ha]; exact ⟨_, he7, NotRow.list _ _⟩
    have hN7 := N7
    have hcle : ∀ (b : Addr) (o : Obj), (b, o) ∈ nw7 → o.data ≠ (listOf vs.toArray c).data → b ≠ le := fun b o hb hd => led_ned hN7 hb he7 hd
    have hRg : ∀ nw', Keep [le] nw7 nw' → RowsIn nw' xs (slideF (marksL low h) R).2 (List.replicate h (sz : Int)) := fun nw' hk => hR7.offC hN7 hRle hk
    clear hN7
    have hv8 := ints_snoc hv4 ((slideF (marksL low h) R).1 : Int) t7
    have hvt : (ws.take (k + 1)).map (fun r : Nat => (h : Int) - 1 - (r : Int)) = (ws.take k).map (fun r : Nat => (h : Int) - 1 - (r : Int)) ++ [((slideF (marksL low h) R).1 : Int)] := by
      have hrk := row_lt hok _ (List.getElem_mem (show k < ws.length by omega))
      rw [List.take_add_one, List.getElem?_eq_getElem (by omega), List.map_append, hat]
      simp only [Option.toList_some, List.map_cons, List.map_nil]
      congr 2
      omega
    rw [← hvt] at hv8
    k_steps
    rename_i h8 F8 N8
    unfold Hold
    obtain ⟨qs1, hs1, hq1⟩ := A7.tab1
    obtain ⟨qs2, hs2, hq2⟩ := A7.tab2
    obtain ⟨o5, v5, h5', d5⟩ := A7.cAt
    have K8 : Keep [le] nw7 (updL le (W.listOf (vs ++ [Value.int (↑(slideF (marksL low h) R).fst) t7]).toArray (c + 1)) nw7) := fun p hp hn => mem_updL_ne hp (by simpa using hn)
    have A8 := A7.step (m' := fun y => if y = Str.ofString "place" then some (Value.int (0 + (k : Int)) u) else m₁ y) K8 (fun a ha => by rw [List.mem_singleton.mp ha]; exact hOle) ⟨qs1, K8.mem1 hs1 (hcle _ _ hs1 (by intro e; cases e)), hq1⟩ ⟨qs2, K8.mem1 hs2 (hcle _ _ hs2 (by intro e; cases e)), hq2⟩ ⟨o5, v5, K8.mem1 h5' (hcle _ _ h5' (by rw [d5]; intro e; cases e)), d5⟩ ⟨rfl, rfl, rfl, rfl⟩
    refine TEnd.intro F8 N8 (List.forall_mem_cons.mpr ⟨K8.mem1 hI7 (Ne.symm (Nat.ne_of_lt (hlt _ (List.mem_cons_self ..)))), fun _ h => nomatch h⟩) (fun p hp hn => ?n2) ⟨_, _, _, A8, ?n3, ?n4, K8.mem1 hlr7 hle.2.2.2, mem_updL_self he7, hv8, hRg _ K8, hch⟩
    case n2 => exact K8.mem1 (K7 _ (hu6 _ (K4 p hp hn)) fun e => hn (List.mem_cons_of_mem _ e)) fun e => hn (by rw [e]; exact List.mem_cons_self ..)
    case n3 => exact hmr4
    case n4 => exact hme4
  · rintro m₁ nw1 h4 tk4 gs4 hG4 ⟨R, vs, c, A4, hmr4, hme4, hr4, he4, hv4, hR4, hch⟩ K4 F4 N4
    rw [List.drop_of_length_le (by omega)] at hch
    rw [List.take_of_length_le (by omega)] at hv4
    simp only [chainOk, Bool.and_eq_true, decide_eq_true_eq] at hch
    rw [hch.2] at hR4
    have F4' : Fr h₀ L h4 m₁ := F4
    have N4' : News h₀ L h4 nw1 := N4
    clear F4 N4
    obtain ⟨o14, t14, hc14, hd14⟩ := A4.cHigh
    obtain ⟨o34, hc34, hd34⟩ := A4.cWord
    obtain ⟨vw, n14, hlw4, hiw4⟩ := A4.word
    dsimp only
    k_steps
    unfold Hold
    have hvw4 : vw.length = h * wd := by rw [ints_len hiw4, List.length_map, hwl]
    refine lc_list rfl rfl rfl hlw4 (le_sizeLine (by simp; omega)) F4' N4' (fun i ys _ => IntsAre ys ((ws.take i).map fun r : Nat => (h : Int) - 1 - (r : Int))) .nil (fun _ _ _ _ hj _ => hj) ?_ ?_
    · intro i v ys5 nw5 m₂ C oC D5 I oI h6 tk6 E' hi e1 hJ5 hK5 hD5 hC F6 N6
      obtain ⟨r, tr, rfl, hr⟩ := nats_item hiw4 (by simpa using hi)
      have hc15 := hK5.mem0 hc14
      refine wpAny_tests_nil ?_
      k_steps
      refine LcEnd.intro (by k_asm) (by k_asm) (fun p hp => List.mem_append_left nw5 hp) (by k_updF) ?_
      show IntsAre _ _
      rw [List.take_add_one, hr, List.map_append]
      exact ints_snoc hJ5 _ _
    · intro D5 h6 tk6 ys5 nw5 hD5 hK5 hJ5
      rw [List.take_of_length_le (by simp [hvw4, hwl])] at hJ5
      intro F6 N6
      have he6 := hK5.mem0 he4
      have hK6 : ∀ p ∈ nw1, p ∈ (D5, lcObj ys5) :: nw5 := fun p hp => List.mem_cons_of_mem _ (hK5.mem0 hp)
      k_steps
      subst hrest
      dsimp only
      exact next m₁ _ h6 _ _ (by exact hG4) (by k_asm) (by k_asm) (A4.grow hK6 ⟨rfl, rfl, rfl, rfl⟩) hmr4 (hK6 _ hr4) (hR4.sub hK6)
end
end
set_option maxHeartbeats 2000000 in
theorem pop0_spec {w : World} {news : Led} {x dx : Addr} {n : Nat} {osz : Obj} (hx : (x, accO dx #[] n) ∈ news) (hdx : (dx, osz) ∈ news) (hos : shadowIn (some osz) (Str.ofString "part_count") = some false) :
   Spec 4 w 74 [.ref x] news (fun v news' => Keep [] news news' ∧ ∃ q t u, v = .ref q ∧ (∀ p ∈ news, p.1 < q) ∧ (q, pairO (Str.ofString "") (Str.ofString "") t u) ∈ news') := by
  intro p loose mean mg mb dp un gd cn cs L a' ccd cl outer A₀ base h₀ m s Q E B F X N T X24 hk hdp hun ret
  refine wpAny_call ?_
  k_dflt k_extra "x_start"
  k_steps
  rename_i kF kN _ _
  exact ret _ _ _ _ _ kF kN ⟨fun p hp _ => List.mem_cons_of_mem _ hp, _, _, _, rfl, by assumption, List.mem_cons_self ..⟩
inductive S14 (L : Addr) (h wd low sz : Nat) (ws : List Nat) (cs : List Pt) (lw lp lm lr : Addr) (nr : Nat) (xs : List (Addr × Addr)) (_ : Nat) (m : Str → Option Value) (nw : Led) : Prop
  | mk (_ : LawA L h wd low sz ws cs lw lp lm m nw) (_ : m (Str.ofString "rows") = some (.ref lr)) (_ : (lr, listOf (xs.map fun p => Value.ref p.1).toArray nr) ∈ nw) (_ : RowsIn nw xs (List.replicate h []) (List.replicate h (sz : Int)))
section
variable {w : World} {p : PySem.Program} {loose : List Str} {mean : ExcName → Option Value} {mg mb : Str → Option Value} {L a : Addr} {cd : Value} {h₀ : Heap} {m : Str → Option Value} {s : Shared} {Q : Flow → Shared → Prop} {nw : Led}
set_option maxHeartbeats 4000000 in
theorem law_s14 (B : Below callerA h₀ [] h₀) (F : Fr h₀ L s.heap m) (X : (hd.heap_39 w.params).In h₀) (N : News h₀ L s.heap nw) (T : Top p loose mean mg mb h₀) (X24 : h₀.get? 24 = some (set24 w.params))
   {h wd low sz : Nat} {ws : List Nat} {cs : List Pt} {lw lp lm lr : Addr} {nr : Nat} {xs : List (Addr × Addr)} (hok : LawOk h wd low sz ws cs) (A : LawA L h wd low sz ws cs lw lp lm m nw) (hmr : m (Str.ofString "rows") = some (.ref lr)) (hr : (lr, listOf (xs.map fun p => Value.ref p.1).toArray nr) ∈ nw) (hR : RowsIn nw xs (List.replicate h []) (List.replicate h (sz : Int)))
   (next : ∀ m' nw' h' tk gs, Bare s.gens gs → Fr h₀ L h' m' → News h₀ L h' nw' → LawA L h wd low sz ws cs lw lp lm m' nw' → m' (Str.ofString "rows") = some (.ref lr) → (lr, listOf (xs.map fun p => Value.ref p.1).toArray nr) ∈ nw' → RowsIn nw' xs (List.replicate h []) (List.replicate h (sz : Int)) →
      wpAny (model Challenge.rw_wo0004_01.row.prog w) (callerA.deeper (lawEnv L a cd)) (execs (lawBody.drop 15) (lawEnv L a cd)) Q (fun _ _ => False) { s with heap := h', toks := tk, gens := gs }) :
   wpAny (model Challenge.rw_wo0004_01.row.prog w) (callerA.deeper (lawEnv L a cd)) (execs (lawBody.drop 14) (lawEnv L a cd)) Q (fun _ _ => False) s := by
  have hb : h ≤ 5 ∧ wd ≤ 4 := shapes_small hok.shape
  obtain ⟨ps10, ht10, _⟩ := A.tab1
  obtain ⟨ps20, ht20, _⟩ := A.tab2
  have nr7 : lr ∉ [76, 83] := fun e => by
    rcases List.mem_cons.mp e with e | e
    · exact led_ne N hr ht10 (by intro e; cases e) e
    · exact led_ne N hr ht20 (by intro e; cases e) (List.mem_singleton.mp e)
  obtain ⟨rest, hrest⟩ : ∃ r, r = lawBody.drop 15 := ⟨_, rfl⟩
  obtain ⟨sc, hsc⟩ : ∃ sc, sc = lawScope := ⟨_, rfl⟩
  obtain ⟨st14, hst14⟩ : ∃ x, x = lawAt 14 := ⟨_, rfl⟩
  rw [show lawBody.drop 14 = st14 :: rest from by rw [hrest, hst14]; exact rfl]
  unfold lawEnv
  rw [← hsc]
  conv at hst14 => rhs; whnf
  conv at hsc => rhs; whnf
  subst hst14 hsc
  k_steps
  unfold Hold
  refine forO_list rfl (by k_asm) (by k_asm) hr [76, 83] nr7
    (S14 L h wd low sz ws cs lw lp lm lr nr xs) ⟨A, hmr, hr, hR⟩ ?_ ?_ ?_
  · rintro k m' nw1 nw2 ⟨a1, a2, a3, a4⟩ kk
    exact ⟨A.mono a1 fun p hp hq => kk p hp (.inr hq), a2, kk _ a3 (.inl (.inl rfl)), a4.monoD fun p hp hd => kk p hp (.inl hd)⟩
  · rintro k v I oI m₁ nw1 h1 tk1 gs1 hG1 hv ⟨A1, hmr1, hr1, hR1⟩ K1 hlt ho F1 N1
    have hk : k < xs.length := by
      have := (Array.getElem?_eq_some_iff.mp hv).1
      simpa using this
    have hxl : xs.length = h := by rw [hR1.1]; simp
    obtain ⟨its, n, hh, tkz, tz, hacc, hdx, hp⟩ := hR1.2.2 k xs[k].1 xs[k].2 (by rw [List.getElem?_eq_getElem hk])
    have gk : ∀ {α : Type} (b : α) (d : α), (List.replicate h b).getD k d = b := fun b d => by rw [List.getD_eq_getElem?_getD, List.getElem?_replicate, if_pos (by omega)]; rfl
    rw [gk] at hdx hp
    obtain rfl : v = .ref xs[k].1 := by
      have h9 : (xs.map fun p => Value.ref p.1)[k]? = some (.ref xs[k].1) := by rw [List.getElem?_map, List.getElem?_eq_getElem hk]; rfl
      have h8 : (xs.map fun p => Value.ref p.1)[k]? = some v := by simpa using hv
      rw [h9] at h8
      exact (Option.some.inj h8).symm
    obtain rfl : its = #[] := by
      have h9 := hp.1
      rw [Array.length_toList] at h9
      exact Array.eq_empty_of_size_eq_zero h9
    generalize xs[k].1 = x at *
    generalize xs[k].2 = dx at *
    have N1g : News h₀ L h1 ((I, oI) :: nw1) := N1
    have F1g : Fr h₀ L h1 m₁ := F1
    obtain ⟨ps1, ht1, htr1⟩ := A1.tab1
    obtain ⟨ps2, ht2, htr2⟩ := A1.tab2
    obtain ⟨ts, hms⟩ := A1.nSize
    have nI7 : I ∉ [76, 83] := fun e => by
      rcases List.mem_cons.mp e with e | e
      · exact Nat.ne_of_lt (hlt _ ht10) e.symm
      · exact Nat.ne_of_lt (hlt _ ht20) (List.mem_singleton.mp e).symm
    have hszero : (0 : Int) ≤ (sz : Int) := by omega
    have hsle : (sz : Int) ≤ 1000 := by have := hok.size; omega
    have hlf : lenF (sz : Int) [] = (sz : Int) := by simp [lenF]
    have hs0 : PyData.strOk (Str.ofString "") = true := by decide +kernel
    have nx76 : x ≠ 76 := led_ne N1g (List.mem_cons_of_mem _ hacc) (List.mem_cons_of_mem _ ht1) (by intro e; cases e)
    have nx83 : x ≠ 83 := led_ne N1g (List.mem_cons_of_mem _ hacc) (List.mem_cons_of_mem _ ht2) (by intro e; cases e)
    have nd76 : dx ≠ 76 := led_ne N1g (List.mem_cons_of_mem _ hdx) (List.mem_cons_of_mem _ ht1) (by intro e; cases e)
    have nd83 : dx ≠ 83 := led_ne N1g (List.mem_cons_of_mem _ hdx) (List.mem_cons_of_mem _ ht2) (by intro e; cases e)
    have hR1' : ∀ nw', Keep [76, 83] ((I, oI) :: nw1) nw' → RowsIn nw' xs (List.replicate h []) (List.replicate h (sz : Int)) := fun nw' hk => (hR1.sub fun p hp => List.mem_cons_of_mem _ hp).offC N1g (fun a ha => by
      rcases List.mem_cons.mp ha with rfl | ha
      · exact ⟨_, List.mem_cons_of_mem _ ht1, NotRow.tab _⟩
      · rw [List.mem_singleton.mp ha]; exact ⟨_, List.mem_cons_of_mem _ ht2, NotRow.tab _⟩) hk
    have hA1' : ∀ m' nw', Keep [76, 83] ((I, oI) :: nw1) nw' → (∃ ps, (76, tabO ps) ∈ nw' ∧ TriplesOk ps.toList) → (∃ ps, (83, tabO ps) ∈ nw' ∧ TriplesOk ps.toList) → (m' (Str.ofString "wide") = m₁ (Str.ofString "wide") ∧ m' (Str.ofString "size") = m₁ (Str.ofString "size") ∧ m' (Str.ofString "parts") = m₁ (Str.ofString "parts") ∧ m' (Str.ofString "text") = m₁ (Str.ofString "text")) → LawA L h wd low sz ws cs lw lp lm m' nw' := fun m' nw' hk t1 t2 hm => by
      have A2 := A1.grow (m' := m₁) (nw' := (I, oI) :: nw1) (fun p hp => List.mem_cons_of_mem _ hp) ⟨rfl, rfl, rfl, rfl⟩
      obtain ⟨o5, v5, h5, d5⟩ := A2.cAt
      refine A2.step hk (fun a ha => ?_) t1 t2 ⟨o5, v5, hk _ h5 (fun e => ?_), d5⟩ hm
      · rcases List.mem_cons.mp ha with rfl | ha
        · exact A2.offN N1g (List.mem_cons_of_mem _ ht1) (fun c e => by cases e) (by intro e; cases e)
        · rw [List.mem_singleton.mp ha]; exact A2.offN N1g (List.mem_cons_of_mem _ ht2) (fun c e => by cases e) (by intro e; cases e)
      · rcases List.mem_cons.mp e with e | e
        · exact led_ned N1g h5 (List.mem_cons_of_mem _ ht1) (by rw [d5]; intro e; cases e) e
        · exact led_ned N1g h5 (List.mem_cons_of_mem _ ht2) (by rw [d5]; intro e; cases e) (List.mem_singleton.mp e)
    clear N1g F1g
    k_steps
    unfold Hold
    rename_i h2 h3 tk3 gs3 hG3 F3 t3 N3
    have hp3 : PairsIn ((I, oI) :: nw1) (#[] : Array Value).toList [] := .nil
    k_dflt (refine' len_use (x := x) ?hx ?hdx ?ht htr1 hp3 (fun p hp => nomatch hp) ?ln hszero hsle ?sB ?sF ?sX ?sN ?sT ?s24 ?sK ?sD ?sU ?_; (case hx => k_mem); (case hdx => k_mem); (case ht => k_mem); (case ln => decide); k_extra "x_inv"; k_whole)
    intro t4 h4 tk4 gs4 ps4 hG4 htr4 F4 N4
    have k4 : Keep [76] ((I, oI) :: nw1) (updL 76 (tabO ps4) ((I, oI) :: nw1)) := fun p hp hn => mem_updL_ne hp (by simpa using hn)
    have t764 : (76, tabO ps4) ∈ updL 76 (tabO ps4) ((I, oI) :: nw1) := mem_updL_self (List.mem_cons_of_mem _ ht1)
    generalize updL 76 (tabO ps4) ((I, oI) :: nw1) = nw4 at *
    have hx4 := k4.mem1 (List.mem_cons_of_mem _ hacc) nx76
    have hdx4 := k4.mem1 (List.mem_cons_of_mem _ hdx) nd76
    have ht24 := k4.mem1 (List.mem_cons_of_mem _ ht2) (show (83 : Addr) ≠ 76 by decide)
    k_steps
    · rename_i a9
      exact absurd hlf a9
    rename_i a9
    unfold Hold
    dsimp only [List.append_nil, List.nil_append]
    k_dflt (refine' Spec.use (pop0_spec hx4 hdx4 rfl) ?sB ?sF ?sX ?sN ?sT ?s24 ?sK ?sD ?sU ?_; k_extra "x_inv"; k_whole)
    rintro v6 nw6 h6 tk6 gs6 hG6 F6 N6 ⟨K6, q6, t6, u6, e6, hq6l, hq6⟩
    subst e6
    have hx6 := K6.mem0 hx4
    have hdx6 := K6.mem0 hdx4
    have ht16 := K6.mem0 t764
    have ht26 := K6.mem0 ht24
    k_steps
    rename_i D7 h7 F7 N7 l7
    unfold Hold
    dsimp only [List.append_nil, List.nil_append]
    k_dflt (refine' Spec.use (ws_spec (xs := []) (List.mem_cons_of_mem _ hx6) (List.mem_cons_of_mem _ hdx6) (List.mem_cons_of_mem _ ht16) (List.mem_cons_of_mem _ ht26) htr4 htr2 PairsIn.nil (fun p hp => nomatch hp) (by decide) hszero hsle) ?sB ?sF ?sX ?sN ?sT ?s24 ?sK ?sD ?sU ?_; k_extra "x_inv"; k_whole)
    rintro v8 nw8 h8 tk8 gs8 hG8 F8 N8 ⟨e8, K8, ps18, ps28, htr18, htr28, ht18, ht28⟩
    have hws : (decide ((sz : Int) = 0) && (decide (lenF (sz : Int) [] = 0) || Txt.isspace (strF []))) = decide ((sz : Int) = 0) := by
      rw [hlf]
      generalize decide ((sz : Int) = 0) = b
      cases b <;> rfl
    rw [hws] at e8
    subst e8
    have hbb : (decide ((sz : Int) = 0) != ((sz : Int) == 0)) = false := by
      generalize (sz : Int) = z
      by_cases e : z = 0 <;> simp [e]
    have k8 : Keep [76, 83] ((I, oI) :: nw1) nw8 := fun p hp hn => K8 _ (List.mem_cons_of_mem _ (K6.mem0 (k4 p hp fun e => hn (List.mem_append_left [83] e)))) hn
    k_steps
    · unfold Hold
      have nr1 : ∀ y, y ≠ Str.ofString "row" → (fun y => if y = Str.ofString "row" then some (Value.ref x) else m₁ y) y = m₁ y := fun y hy => if_neg hy
      have A8 := hA1' (fun y => if y = Str.ofString "row" then some (Value.ref x) else m₁ y) nw8 k8 ⟨ps18, ht18, htr18⟩ ⟨ps28, ht28, htr28⟩ ⟨nr1 _ (by decide), nr1 _ (by decide), nr1 _ (by decide), nr1 _ (by decide)⟩
      refine TEnd.intro F8 N8 (List.forall_mem_cons.mpr ⟨k8 _ (List.mem_cons_self ..) nI7, fun _ h => nomatch h⟩) (fun p hp hn => k8 _ (List.mem_cons_of_mem _ (K1 p hp hn)) hn) ⟨A8, hmr1, k8 _ (List.mem_cons_of_mem _ hr1) nr7, hR1' _ k8⟩ ?_
      exact Bare.trans (by exact hG3) (Bare.trans (by exact hG4) (Bare.trans (by exact hG6) (by exact hG8)))
  · rintro m₁ nw1 h1 tk1 gs1 hG1 ⟨A1, hmr1, hr1, hR1⟩ K1 F1 N1
    subst hrest
    dsimp only
    exact next m₁ nw1 h1 _ _ (by exact hG1) F1 N1 A1 hmr1 hr1 hR1
end
/-! the turns, decided -/
def passGo (pre : List Nat) (c : Nat) : List Nat → List Nat
  | [] => pre ++ [c]
  | r :: rest => if r = 0 ∨ pre.count (r - 1) > pre.count r then passGo (pre ++ [r]) c rest else passGo (pre ++ [c]) r rest
def passQ : List Nat → List Nat
  | [] => []
  | c :: rest => passGo [] c rest
theorem passStep_app (pre : List Nat) (c r : Nat) (rest : List Nat) : passStep (pre ++ c :: r :: rest) pre.length = if r = 0 ∨ pre.count (r - 1) > pre.count r then pre ++ r :: c :: rest else pre ++ c :: r :: rest := by
  have e1 : (pre ++ c :: r :: rest).getD (pre.length + 1) 0 = r := by
    rw [List.getD_eq_getElem?_getD, List.getElem?_append_right (by omega)]; simp
  have e2 : (pre ++ c :: r :: rest).getD pre.length 0 = c := by
    rw [List.getD_eq_getElem?_getD, List.getElem?_append_right (by omega)]; simp
  have e3 : (pre ++ c :: r :: rest).take pre.length = pre := by simp
  unfold passStep
  dsimp only
  rw [e1, e2, e3]
  split
  · rw [List.set_append_right _ _ (by omega), List.set_append_right _ _ (by omega)]; simp
  · rfl
theorem passGo_ok (w : List Nat) : ∀ (rest pre : List Nat) (c : Nat), passN w pre.length = pre ++ c :: rest → passN w (pre.length + rest.length) = passGo pre c rest
  | [], pre, c, h => by simpa [passGo] using h
  | r :: rest, pre, c, h => by
    have hs : passN w (pre.length + 1) = passStep (passN w pre.length) pre.length := rfl
    rw [h, passStep_app] at hs
    unfold passGo
    by_cases e : r = 0 ∨ pre.count (r - 1) > pre.count r
    · rw [if_pos e] at hs ⊢
      have ih := passGo_ok w rest (pre ++ [r]) c (by rw [List.length_append, List.length_singleton, hs]; simp)
      rw [← ih]
      congr 1
      simp; omega
    · rw [if_neg e] at hs ⊢
      have ih := passGo_ok w rest (pre ++ [c]) r (by rw [List.length_append, List.length_singleton, hs]; simp)
      rw [← ih]
      congr 1
      simp; omega
theorem passF_eq (w : List Nat) : passF w = passQ w := by
  cases w with
  | nil => rfl
  | cons c rest =>
    have h := passGo_ok (c :: rest) rest [] c rfl
    simpa [passF, passQ] using h
def iterQ : Nat → List Nat → List Nat
  | 0, w => w
  | n + 1, w => passQ (iterQ n w)
def turnR (low h : Nat) (ws : List Nat) : List (List (Str × Str)) :=
  (slideF (marksL low h) (rowsW low h ws)).2.set (h - 1) ((slideF (marksL low h) (rowsW low h ws)).2.getD (h - 1) [] ++ [(sgn (low + (h - 1)), sgn 90)])
def turnOk (low h wd : Nat) (ws : List Nat) : Bool :=
  decide ((slideF (marksL low h) (rowsW low h ws)).1 = h - 1) && rowsFit h (rowsW low h ws) && rowsFit h (slideF (marksL low h) (rowsW low h ws)).2 && rowsFit h (turnR low h ws) && decide (((turnR low h ws).getD 0 []).length = wd) && decide ((turnR low h ws).flatten.length = h * wd) && decide (lenF 0 ((turnR low h ws).getD 0 []) = 2 * wd) && decide (Txt.isspace (strF ((turnR low h ws).getD 0 [])) = false) &&
  match sortP ((turnR low h ws).flatten.map swapP) with
  | some ys => decide (ys.map (·.2) = (passQ ws).map fun r => sgn (low + r)) && decide (ys.length = h * wd)
  | none => false
theorem turn_a0 : ∀ ws ∈ wGen 3 3 9, turnOk 65529 3 3 ws = true := by decide +kernel
theorem turn_a1 : ∀ ws ∈ wGen 3 3 9, turnOk 65530 3 3 ws = true := by decide +kernel
theorem turn_a2 : ∀ ws ∈ wGen 3 3 9, turnOk 65531 3 3 ws = true := by decide +kernel
theorem turn_b0 : ∀ ws ∈ wGen 4 2 8, turnOk 65529 4 2 ws = true := by decide +kernel
theorem turn_b1 : ∀ ws ∈ wGen 4 2 8, turnOk 65530 4 2 ws = true := by decide +kernel
theorem turn_c0 : ∀ ws ∈ wGen 2 4 8, turnOk 65529 2 4 ws = true := by decide +kernel
theorem turn_c1 : ∀ ws ∈ wGen 2 4 8, turnOk 65530 2 4 ws = true := by decide +kernel
theorem turn_c2 : ∀ ws ∈ wGen 2 4 8, turnOk 65531 2 4 ws = true := by decide +kernel
theorem turn_c3 : ∀ ws ∈ wGen 2 4 8, turnOk 65532 2 4 ws = true := by decide +kernel
theorem turn_d0 : ∀ ws ∈ wGen 5 2 10, turnOk 65529 5 2 ws = true := by decide +kernel
theorem turn_ok {h wd low sz : Nat} {ws : List Nat} {cs : List Pt} (hok : LawOk h wd low sz ws cs) : turnOk low h wd ws = true :=
  hok.cases (P := fun h wd low ws => turnOk low h wd ws = true) turn_a0 turn_a1 turn_a2 turn_b0 turn_b1 turn_c0 turn_c1 turn_c2 turn_c3 turn_d0
theorem pass_a : ∀ ws ∈ wGen 3 3 9, passQ ws ∈ wGen 3 3 9 := by decide +kernel
theorem pass_b : ∀ ws ∈ wGen 4 2 8, passQ ws ∈ wGen 4 2 8 := by decide +kernel
theorem pass_c : ∀ ws ∈ wGen 2 4 8, passQ ws ∈ wGen 2 4 8 := by decide +kernel
theorem pass_d : ∀ ws ∈ wGen 5 2 10, passQ ws ∈ wGen 5 2 10 := by decide +kernel
theorem iter_a : ∀ ws ∈ wGen 3 3 9, iterQ 9 ws = ws := by decide +kernel
theorem iter_b : ∀ ws ∈ wGen 4 2 8, iterQ 8 ws = ws := by decide +kernel
theorem iter_c : ∀ ws ∈ wGen 2 4 8, iterQ 8 ws = ws := by decide +kernel
theorem iter_d : ∀ ws ∈ wGen 5 2 10, iterQ 10 ws = ws := by decide +kernel
theorem LawOk.pass {h wd low sz : Nat} {ws : List Nat} {cs : List Pt} (hok : LawOk h wd low sz ws cs) : LawOk h wd low sz (passQ ws) cs :=
  ⟨hok.shape, hok.lo, hok.hi, hok.size, hok.cases (P := fun h wd _ ws => passQ ws ∈ wGen h wd (h * wd)) pass_a pass_a pass_a pass_b pass_b pass_c pass_c pass_c pass_c pass_d, hok.parts⟩
theorem LawOk.iter {h wd low sz : Nat} {ws : List Nat} {cs : List Pt} (hok : LawOk h wd low sz ws cs) : ∀ n, LawOk h wd low sz (iterQ n ws) cs
  | 0 => hok
  | n + 1 => (hok.iter n).pass
theorem iter_all {h wd low sz : Nat} {ws : List Nat} {cs : List Pt} (hok : LawOk h wd low sz ws cs) : iterQ (h * wd) ws = ws :=
  hok.cases (P := fun h wd _ ws => iterQ (h * wd) ws = ws) iter_a iter_a iter_a iter_b iter_b iter_c iter_c iter_c iter_c iter_d
structure TurnIs (low h wd : Nat) (ws : List Nat) (ys : List (Str × Str)) : Prop where
  at_ : (slideF (marksL low h) (rowsW low h ws)).1 = h - 1
  fit : rowsFit h (rowsW low h ws) = true
  fit2 : rowsFit h (slideF (marksL low h) (rowsW low h ws)).2 = true
  fit3 : rowsFit h (turnR low h ws) = true
  first : ((turnR low h ws).getD 0 []).length = wd
  much : (turnR low h ws).flatten.length = h * wd
  lenIs : lenF 0 ((turnR low h ws).getD 0 []) = 2 * wd
  noSpace : Txt.isspace (strF ((turnR low h ws).getD 0 [])) = false
  sort : sortP ((turnR low h ws).flatten.map swapP) = some ys
  marks : ys.map (·.2) = (passQ ws).map fun r => sgn (low + r)
  len : ys.length = h * wd
theorem turn_is {h wd low sz : Nat} {ws : List Nat} {cs : List Pt} (hok : LawOk h wd low sz ws cs) : ∃ ys, TurnIs low h wd ws ys := by
  have h1 := turn_ok hok
  unfold turnOk at h1
  cases e : sortP ((turnR low h ws).flatten.map swapP) with
  | none => rw [e] at h1; simp at h1
  | some ys =>
    rw [e] at h1
    simp only [Bool.and_eq_true, decide_eq_true_eq] at h1
    obtain ⟨⟨⟨⟨⟨⟨⟨⟨a1, a2⟩, a3⟩, a4⟩, a5⟩, a8⟩, a9⟩, a10⟩, a6, a7⟩ := h1
    exact ⟨ys, a1, a2, a3, a4, a5, a8, a9, a10, e, a6, a7⟩
section
open Lx
theorem RowsIn.put {g hp : Heap} {L : Addr} {nw nw' : Led} {xs : List (Addr × Addr)} {R : List (List (Str × Str))} {ks : List Int} {i : Nat} {x dx : Addr} {its its' : Array Value} {n n' : Nat} {hh hh' : Int} {tk tk' t t' : Tok} {k k' : Int} {r : List (Str × Str)} (H : RowsIn nw xs R ks) (hD : D2 xs) (N : News g L hp nw) (hx : xs[i]? = some (x, dx)) (hks : ks.length = R.length)
    (h0 : (x, accO dx its n) ∈ nw) (hd0 : (dx, sizeO hh tk k t) ∈ nw) (hk : Keep [x, dx] nw nw') (h1 : (x, accO dx its' n') ∈ nw') (h2 : (dx, sizeO hh' tk' k' t') ∈ nw') (hpr : PairsIn nw' its'.toList r) : RowsIn nw' xs (R.set i r) (ks.set i k') := by
  have hi : i < R.length := by rw [← H.1]; exact (List.getElem?_eq_some_iff.mp hx).1
  refine ⟨by rw [List.length_set]; exact H.1, H.2.1, fun j xj dj hj => ?_⟩
  by_cases e : j = i
  · subst e
    rw [hx] at hj; cases hj
    exact ⟨its', n', hh', tk', t', h1, by rw [getD_set_self (by omega)]; exact h2, by rw [getD_set_self hi]; exact hpr⟩
  · obtain ⟨itj, nj, h3, tk3, t3, a, b, c⟩ := H.2.2 j xj dj hj
    have n1 : xj ≠ x := H.2.1 j i _ _ hj hx e
    have n2 : dj ≠ dx := hD j i _ _ hj hx e
    have n3 : xj ≠ dx := led_ne N a hd0 (by intro e; cases e)
    have n4 : dj ≠ x := led_ne N b h0 (by intro e; cases e)
    have hne : ∀ q o, (q, o) ∈ nw → o.cls = .type "tuple" → q ∉ [x, dx] := fun q o hq ho e => by
      rcases List.mem_cons.mp e with e | e
      · exact led_ne N hq h0 (by rw [ho]; intro e; cases e) e
      · exact led_ne N hq hd0 (by rw [ho]; intro e; exact absurd (Value.type.inj e) (by decide)) (List.mem_singleton.mp e)
    refine ⟨itj, nj, h3, tk3, t3, hk _ a (by simp [n1, n3]), ?_, ?_⟩
    · rw [getD_set_ne (Ne.symm e)]; exact hk _ b (by simp [n2, n4])
    · rw [getD_set_ne (Ne.symm e)]
      exact ⟨c.1, fun z p e2 => by obtain ⟨q, t9, u9, e3, e4⟩ := c.2 z p e2; exact ⟨q, t9, u9, e3, hk _ e4 (hne _ _ e4 rfl)⟩⟩
theorem RowsIn.dict {nw : Led} {xs : List (Addr × Addr)} {R : List (List (Str × Str))} {ks : List Int} (H : RowsIn nw xs R ks) {a : Addr} (ha : a ∈ xs.map (·.2)) : ∃ hh tk k t, (a, sizeO hh tk k t) ∈ nw := by
  obtain ⟨q, hq, rfl⟩ := List.mem_map.mp ha
  obtain ⟨j, hj, he⟩ := List.mem_iff_getElem.mp hq
  obtain ⟨its, n, h1, tk, t, _, h, _⟩ := H.2.2 j q.1 q.2 (by rw [List.getElem?_eq_getElem hj, he])
  exact ⟨h1, tk, _, t, h⟩
theorem RowsIn.ne2 {g hp : Heap} {L : Addr} {nw : Led} {xs : List (Addr × Addr)} {R : List (List (Str × Str))} {ks : List Int} (H : RowsIn nw xs R ks) (N : News g L hp nw) {b : Addr} {o : Obj} (hb : (b, o) ∈ nw) (ho : ∀ dx its n, o ≠ accO dx its n) (ho2 : ∀ hh tk k t, o ≠ sizeO hh tk k t) : b ∉ xs.map (·.1) ++ xs.map (·.2) := fun ha => by
  rcases List.mem_append.mp ha with ha | ha
  · exact H.ne N hb ho ha
  · obtain ⟨hh, tk, k, t, hm⟩ := H.dict ha
    exact ho2 _ _ _ _ (led_same N hb hm)
section
variable {prog : Program} {w : World} {A : Around} {E : Value → Shared → Prop} {s : Shared} {env : Env} {h₀ : Heap} {body : List Stmt} {Q : Flow → Shared → Prop} {m₀ : Str → Option Value} {news : Led} {elts : List PySem.Expr} {tn : Nat} {tp : Pos}
/-- a loop over a zip whose invariant may speak of what is made in a turn -/
theorem forO_zip2 {l1 l2 : Addr} {its ys : Array Value} {n1 n2 : Nat} (hh : A.handled = none) (F : Fr h₀ env.locals s.heap m₀) (N : News h₀ env.locals s.heap news) (hm1 : (l1, listOf its n1) ∈ news) (hm2 : (l2, listOf ys n2) ∈ news) (hsame : ys.size = its.size) (xs : List Addr) (hx1 : l1 ∉ xs) (hx2 : l2 ∉ xs)
    (J : Addr → Nat → (Str → Option Value) → Led → Prop) (J0 : ∀ b, (∀ p ∈ news, p.1 < b) → J b 0 m₀ news) (hmono : ∀ b i m nw nw', J b i m nw → (∀ p ∈ nw, (p.2.cls = .ref 114 ∨ (∃ q ∈ news, q.1 = p.1) ∨ b ≤ p.1) → p ∈ nw') → J b i m nw')
    (turn : ∀ b i x y T I oI I1 oI1 I2 oI2 I3 oI3 I4 oI4 m₁ nw h tk gs, Bare s.gens gs → its[i]? = some x → ys[i]? = some y → IsTup h T #[x, y] → J b i m₁ nw → Keep xs news nw → (∀ p ∈ news, p.1 < I ∧ p.1 < I1 ∧ p.1 < I2 ∧ p.1 < I3 ∧ p.1 < I4) → (∀ z : Addr, I < z → b ≤ z) → Fr h₀ env.locals h m₁ → News h₀ env.locals h ((I, oI) :: (I1, oI1) :: (I2, oI2) :: (I3, oI3) :: (I4, oI4) :: nw) →
      wpAny (model prog w) A (assign (.Tuple elts tn tp) env (.ref T)) (fun _ s₂ => wpAny (model prog w) A (execs body env) (TPost h₀ env.locals { s with heap := h, toks := tk, gens := gs } [(I, oI), (I1, oI1), (I2, oI2), (I3, oI3), (I4, oI4)] xs news (J b (i + 1)) Q) E s₂) E { s with heap := h, toks := tk, gens := gs })
    (done : ∀ b m₁ nw h tk gs, Bare s.gens gs → J b its.size m₁ nw → Keep xs news nw → Fr h₀ env.locals h m₁ → News h₀ env.locals h nw → Q .next { s with heap := h, toks := tk, gens := gs }) :
    wpAny (model prog w) A (call (.type "zip") [.ref l1, .ref l2]) (fun xv s₁ => wpAny (model prog w) A (pyIter xv) (fun it s₂ => LoopG prog w A env (.Tuple elts tn tp) body Q E it s₂) E s₁) E s := by
  refine src_zip (elts := elts) (tk := tn) (tp := tp) (xs := its.toList) (ys := ys.toList) hh F N hm1 rfl rfl hm2 rfl rfl fun lim h' S F' N' hL hlim => ?_
  have hws : ∀ v ∈ [(lim + 4, "zip"), (lim + 2, "tuple"), (lim + 3, "tuple"), (lim, "list_iterator"), (lim + 1, "list_iterator")], lim ≤ v.1 := fun v hv => by obtain ⟨_, _, _, _, _, _, _, h, _⟩ := S; exact (h v.1 (List.mem_map_of_mem hv)).2
  have hlt5 : ∀ v ∈ [(lim + 4, "zip"), (lim + 2, "tuple"), (lim + 3, "tuple"), (lim, "list_iterator"), (lim + 1, "list_iterator")], v.1 < lim + 5 := fun v hv => by
    simp only [List.mem_cons, List.not_mem_nil, or_false] at hv
    rcases hv with rfl | rfl | rfl | rfl | rfl <;> simp only [Addr] at * <;> omega
  refine for_src S F' N' hL hlim (fun p hp => by simp at hp; rcases hp with rfl | rfl <;> assumption) xs (fun p hp => by simp at hp; rcases hp with rfl | rfl <;> assumption) (fun p => p.2.cls = .ref 114 ∨ (∃ q ∈ news, q.1 = p.1) ∨ lim + 5 ≤ p.1) (fun p hp v hv e => ?_) (J (lim + 5)) (J0 _ fun p hp => Nat.lt_of_lt_of_le (hlim p hp) (Nat.le_add_right _ _)) (hmono _) ?_ ?_
  · rcases hp with hp | ⟨q, hq, e2⟩ | hp
    · rw [hp]; intro e9; cases e9
    · exact absurd (hlim q hq) (Nat.not_lt.mpr (by rw [e2, e]; exact hws v hv))
    · exact absurd (hlt5 v hv) (Nat.not_lt.mpr (by rw [← e]; exact hp))
  · rintro i v m₁ nw h tk gs hg hi ⟨T, a, b, rfl, ha, hb, hT⟩ hJ hK F₁ o ho o1 ho1 o2 ho2 o3 ho3 o4 ho4 N₁
    exact turn (lim + 5) i a b T _ o _ o1 _ o2 _ o3 _ o4 m₁ nw h tk gs hg (by simpa using ha) (by simpa using hb) hT hJ hK (fun p hp => by have := hlim p hp; exact ⟨Nat.lt_of_lt_of_le this (by simp), Nat.lt_of_lt_of_le this (by simp), Nat.lt_of_lt_of_le this (by simp), this, Nat.lt_of_lt_of_le this (by simp)⟩) (fun z hz => hz) F₁ N₁
  · intro m₁ nw h tk gs hg hJ hK F₁ N₁
    exact done (lim + 5) m₁ nw h tk gs hg (by simpa [hsame] using hJ) hK F₁ N₁
end
set_option maxHeartbeats 0 in
/-- _law_row's contract, where its pairs lie: above all that stood -/
theorem row_spec2 {w : World} {news : Led} {s1 s2 : Str} {t1 t2 : Tok} (hc : CapOk s1 s2) :
   Spec 8 w 156 [.str s1 t1, .str s2 t2] news (fun v news' => Keep [] news news' ∧ ∃ l c vs nwp, v = .ref l ∧ (∀ p ∈ news, p.1 < l) ∧ (l, listOf vs.toArray c) ∈ news' ∧ PairsIn nwp vs (rowF s1 s2 1000) ∧ ∀ q ∈ nwp, q ∈ news' ∧ tupO q ∧ ∀ p ∈ news, p.1 < q.1) := by
  intro p loose mean mg mb dp un gd cn cs' L a ccd cl outer A₀ base h₀ m s Q E B F X N T X24 hk hdp hun ret
  refine wpAny_call ?_
  k_dflt (refine' code_defC ?k1 ?k2 ?k3 ?k4 ?k5 ?kA ?kF ?kK ?k6 ?k7 ?k8 ?k9 ?kB ?kD ?_ ?c2 ?c3 ?c4; (case kA => exact rfl); (case kF => exact rfl); (case kK => first | assumption | exact rfl); (case k1 => k_asm); (case k2 => k_asm); (case k3 => k_asm); (case k4 => k_asm); (case k5 => k_asm); (case k6 => k_is); (case k7 => k_is); (case k8 => k_room); (case k9 => first | exact BindsTo.of_eq rfl | exact binds_K (by k_in) rfl (by k_is) rfl rfl rfl); (case kB => exact rfl); (case kD => decide +kernel); (case c2 => exact rfl); (case c3 => exact rfl); (case c4 => exact rfl); k_whole)
  intro g1 L1 h1 tk1 cells FG F1 N1 Y1 B1 X1 T1 l1
  obtain ⟨oc1, hE, d1⟩ := CellsAre.one Y1
  subst hE; clear Y1
  simp only [List.cons_append, List.nil_append] at N1
  (try dsimp only)
  (try k_lift B1)
  obtain ⟨m1, F2, hm⟩ : ∃ m1, Fr g1 L1 h1 m1 ∧ (m1 (Str.ofString "text") = some (.str s1 t1) ∧ True) := ⟨_, F1, rfl, trivial⟩
  obtain ⟨hm1, _⟩ := hm
  clear F1
  (try k_fold)
  replace d1 : oc1.data = .cell (some (.str s2 t2)) := d1
  k_steps
  rename_i news9 h9 tk9 gs9 hG9 F9 N9 K9 t9
  have hs2 : s2 = ⟨s2.cps⟩ := rfl
  unfold Hold
  refine lc_str rfl rfl rfl (le_sizeLine (Nat.le_trans hc.out (by omega))) F9 N9 (fun i ys nw => ∃ nwp : Led, PairsIn nwp ys (rowF s1 s2 i) ∧ ∀ q ∈ nwp, q ∈ nw ∧ tupO q ∧ ∀ p ∈ news, p.1 < q.1) ⟨[], .nil, fun q hq => nomatch hq⟩ (fun i ys nw nw' h k => by obtain ⟨nwp, a1, a2⟩ := h; exact ⟨nwp, a1, fun q hq => ⟨k _ (a2 q hq).1 (a2 q hq).2.1, (a2 q hq).2⟩⟩) ?_ ?_
  · rintro i c u ys nw m₂ C oC D I oI h10 tk11 E' hi hm ⟨nwp, hp1, hp2⟩ hK2 hlt2 hC F10 N10
    refine wpAny_tests_one ?_
    have hr : rowF s1 s2 (i + 1) = rowF s1 s2 i ++ (if isUp c = true then [(s2, sgn c)] else []) := by
      unfold rowF
      rw [List.take_add_one, Array.getElem?_toList, hi]
      by_cases hu : isUp c = true <;> simp [List.filter_append, hu]
    k_steps
    · rename_i a1
      have hu : ¬ isUp c = true := by simp [isUp]; have : c < 65 := (lt_sgn (b := 65)).mp a1; omega
      exact LcEnd.intro (by k_asm) (by k_asm) (fun p hp => List.mem_append_left nw hp) (by k_updF) ⟨nwp, by rw [hr, if_neg hu, List.append_nil]; exact hp1, fun q hq => ⟨List.mem_append_right _ (hp2 q hq).1, (hp2 q hq).2⟩⟩
    · rename_i a1 a2
      have hu : ¬ isUp c = true := by simp [isUp]; have : 90 < c := (lt_sgn (a := 90)).mp a2; omega
      exact LcEnd.intro (by k_asm) (by k_asm) (fun p hp => List.mem_append_left nw hp) (by k_updF) ⟨nwp, by rw [hr, if_neg hu, List.append_nil]; exact hp1, fun q hq => ⟨List.mem_append_right _ (hp2 q hq).1, (hp2 q hq).2⟩⟩
    · rename_i a1 a2 D2 h12 F12 N12 l12
      have hu : isUp c = true := by simp [isUp]; have h1 : ¬ c < 65 := mt (lt_sgn (b := 65)).mpr a1; have h2 : ¬ 90 < c := mt (lt_sgn (a := 90)).mpr a2; omega
      refine LcEnd.intro (by k_asm) (by k_asm) (fun p hp => List.mem_cons_of_mem _ (List.mem_append_left nw hp)) (by k_updF) ⟨(D2, pairO s2 (sgn c) t2 u) :: nwp, ?_, fun q hq => ?_⟩
      · rw [hr, if_pos hu]; exact (hp1.sub fun p hp => List.mem_cons_of_mem _ hp).snoc (List.mem_cons_self ..)
      · rcases List.mem_cons.mp hq with rfl | hq
        · exact ⟨List.mem_cons_self .., ⟨rfl, _, _, rfl⟩, fun p hp => kst_ltOf l12.2.2.2 p (hK2.mem0 (K9.mem0 (List.mem_cons_of_mem _ hp)))⟩
        · exact ⟨List.mem_cons_of_mem _ (List.mem_append_right _ (hp2 q hq).1), (hp2 q hq).2⟩
  · rintro D h10 tk11 ys nw2 hD hK2 ⟨nwp, hp1, hp2⟩ F11 N11
    k_steps
    refine ret _ _ _ _ _ (by k_asm) (by k_asm) ⟨?_, _, _, ys, nwp, rfl, ?_, List.mem_cons_self .., ?_, fun q hq => ⟨List.mem_cons_of_mem _ (hp2 q hq).1, (hp2 q hq).2⟩⟩
    · exact fun p hp _ => List.mem_cons_of_mem _ (hK2.mem0 (K9.mem0 (List.mem_cons_of_mem _ hp)))
    · exact fun p hp => hD p (K9.mem0 (List.mem_cons_of_mem _ hp))
    · have e : rowF s1 s2 (capS s1 s2).cps.size = rowF s1 s2 1000 := by
        unfold rowF
        rw [List.take_of_length_le (by simp), List.take_of_length_le (by simpa using hc.out)]
      rw [← e]
      exact hp1
inductive T0J (L : Addr) (h wd low sz : Nat) (ws wk : List Nat) (cs : List Pt) (lw lp lm : Addr) (m : Str → Option Value) (nw : Led) (xs : List (Addr × Addr)) (b : Addr) (i : Nat) (m' : Str → Option Value) (nw' : Led) : Prop
  | mk (_ : LawA L h wd low sz ws cs lw lp lm m' nw') (_ : ∀ y, y ≠ Str.ofString "row" → y ≠ Str.ofString "mark" → m' y = m y) (nwB : Led) (R2 : List (List (Str × Str))) (ks2 : List Int) (_ : ∀ p ∈ nwB, p ∈ nw' ∧ (p.2.cls = .ref 114 ∨ (∃ q ∈ nw, q.1 = p.1) ∨ b ≤ p.1)) (_ : RowsIn nwB xs R2 ks2) (_ : R2.length = h) (_ : ks2.length = h) (_ : ∀ j, j < i → R2.getD j [] = rowW low wk j ∧ ks2.getD j 0 = 0) (_ : ∀ j, (R2.getD j []).length ≤ 200)
section
variable {w : World} {p : PySem.Program} {loose : List Str} {mean : ExcName → Option Value} {mg mb : Str → Option Value} {L a : Addr} {cd : Value} {h₀ : Heap} {m : Str → Option Value} {s : Shared} {Q : Flow → Shared → Prop} {nw : Led}
set_option maxHeartbeats 4000000 in
theorem law_t0 (B : Below callerA h₀ [] h₀) (F : Fr h₀ L s.heap m) (X : (hd.heap_39 w.params).In h₀) (N : News h₀ L s.heap nw) (T : Top p loose mean mg mb h₀) (X24 : h₀.get? 24 = some (set24 w.params))
   {h wd low sz : Nat} {ws wk : List Nat} {cs : List Pt} {lw lp lm lr : Addr} {nr : Nat} {xs : List (Addr × Addr)} {R : List (List (Str × Str))} {ks : List Int} {tn : Tok} (hok : LawOk h wd low sz wk cs) (A : LawA L h wd low sz ws cs lw lp lm m nw) (hmr : m (Str.ofString "rows") = some (.ref lr)) (hmn : m (Str.ofString "now") = some (.str (mkS (textC low wk (partCodes cs))) tn)) (hr : (lr, listOf (xs.map fun p => Value.ref p.1).toArray nr) ∈ nw) (hR : RowsIn nw xs R ks) (hD : D2 xs) (hf : rowsFit h R = true) (hks : ks.length = h)
   (next : ∀ m' nw' h' tk gs, Bare s.gens gs → Fr h₀ L h' m' → News h₀ L h' nw' → LawA L h wd low sz ws cs lw lp lm m' nw' → (∀ y, y ≠ Str.ofString "row" → y ≠ Str.ofString "mark" → m' y = m y) → Keep (xs.map (·.1) ++ xs.map (·.2)) nw nw' → RowsIn nw' xs (rowsW low h wk) (List.replicate h 0) →
      wpAny (model Challenge.rw_wo0004_01.row.prog w) (callerA.deeper (lawEnv L a cd)) (execs ((forBody 16).drop 1) (lawEnv L a cd)) Q (fun _ _ => False) { s with heap := h', toks := tk, gens := gs }) :
   wpAny (model Challenge.rw_wo0004_01.row.prog w) (callerA.deeper (lawEnv L a cd)) (execs ((forBody 16).drop 0) (lawEnv L a cd)) Q (fun _ _ => False) s := by
  have hb : h ≤ 5 ∧ wd ≤ 4 := shapes_small hok.shape
  obtain ⟨hRh, hRs, hRo, hRl⟩ := rowsFit_all hf
  obtain ⟨o4, hc4, hd4⟩ := A.cMarks
  obtain ⟨vm, n3, hlm, him⟩ := A.marks
  have hxl : xs.length = h := by rw [hR.1, hRh]
  have hvm : vm.length = h := by rw [him.length]; simp [marksL]
  have nlr := hR.ne2 N hr (fun _ _ _ e => by cases e) (fun _ _ _ _ e => by have h := congrArg Obj.data e; cases h)
  have nlm := hR.ne2 N hlm (fun _ _ _ e => by cases e) (fun _ _ _ _ e => by have h := congrArg Obj.data e; cases h)
  obtain ⟨rest, hrest⟩ : ∃ r, r = (forBody 16).drop 1 := ⟨_, rfl⟩
  obtain ⟨sc, hsc⟩ : ∃ sc, sc = lawScope := ⟨_, rfl⟩
  obtain ⟨st0, hst0⟩ : ∃ x, x = (forBody 16).getD 0 (.Pass default) := ⟨_, rfl⟩
  rw [show (forBody 16).drop 0 = st0 :: rest from by rw [hrest, hst0]; exact rfl]
  unfold lawEnv
  rw [← hsc]
  conv at hst0 => rhs; whnf
  conv at hsc => rhs; whnf
  subst hst0 hsc
  k_steps
  unfold Hold
  refine forO_zip2 rfl (by k_asm) (by k_asm) hr hlm (by simp [hvm, hxl]) (xs.map (·.1) ++ xs.map (·.2)) nlr nlm
    (T0J L h wd low sz ws wk cs lw lp lm m nw xs) ?_ ?_ ?_ ?_
  · intro b hbb
    exact ⟨A, fun y _ _ => rfl, nw, R, ks, fun p hp => ⟨hp, .inr (.inl ⟨p, hp, rfl⟩)⟩, hR, hRh, hks, fun j hj => absurd hj (Nat.not_lt_zero _), fun j => Nat.le_trans (len_get R j) (by omega)⟩
  · rintro b i m' nw1 nw2 ⟨a1, a2, nwB, R2, ks2, a3, a4, a5, a6, a7, a8⟩ k
    exact ⟨A.mono a1 fun p hp hq => k p hp (.inr (.inl hq)), a2, nwB, R2, ks2, fun p hp => ⟨k p (a3 p hp).1 (a3 p hp).2, (a3 p hp).2⟩, a4, a5, a6, a7, a8⟩
  · rintro b i x y Tp I oI I1 oI1 I2 oI2 I3 oI3 I4 oI4 m₁ nw1 h1 tk1 gs1 hG1 hx hy hTp ⟨A1, e1, nwB, R2, ks2, hB, hR2, hl1, hl2, hdone, hshort⟩ K1 hlt hbz F1 N1
    have hi : i < xs.length := by
      have := (Array.getElem?_eq_some_iff.mp hx).1
      simpa using this
    obtain rfl : x = .ref xs[i].1 := by
      have h9 : (xs.map fun p => Value.ref p.1)[i]? = some (.ref xs[i].1) := by rw [List.getElem?_map, List.getElem?_eq_getElem hi]; rfl
      have h8 : (xs.map fun p => Value.ref p.1)[i]? = some x := by simpa using hx
      rw [h9] at h8
      exact (Option.some.inj h8).symm
    obtain ⟨ys, ty, rfl, hys⟩ := StrsAre.item him i y (by simpa using hy)
    obtain rfl : ys = sgn (low + i) := by
      rw [marksL, List.getElem?_map, List.getElem?_range (by omega)] at hys
      exact (Option.some.inj hys).symm
    have hxi : xs[i]? = some (xs[i].1, xs[i].2) := List.getElem?_eq_getElem hi
    have hxm : xs[i].1 ∈ xs.map (·.1) := List.mem_map_of_mem (List.getElem_mem hi)
    have hdm : xs[i].2 ∈ xs.map (·.2) := List.mem_map_of_mem (List.getElem_mem hi)
    generalize xs[i].1 = x at *
    generalize xs[i].2 = dx at *
    obtain ⟨its, n, hh, tkz, tz, hacc, hdx, hp⟩ := hR2.2.2 i x dx hxi
    obtain ⟨dx0, its0, n0, hx0⟩ := hR.notOff hxm
    obtain ⟨hh0, tk0, k0, t0, hd0⟩ := hR.dict hdm
    have hxI := hlt _ hx0
    have hdI := hlt _ hd0
    have hcap := cap_ok hok (i := i) (by omega)
    have hacc1 := (hB _ hacc).1
    have hdx1 := (hB _ hdx).1
    have hmr1 : m₁ (Str.ofString "rows") = some (.ref lr) := by rw [e1 _ (by decide) (by decide)]; exact hmr
    have hmn1 : m₁ (Str.ofString "now") = some (.str (mkS (textC low wk (partCodes cs))) tn) := by rw [e1 _ (by decide) (by decide)]; exact hmn
    have hsz : its.size ≤ 1000 := by
      have h9 := hp.1
      have h8 := hshort i
      rw [Array.length_toList] at h9; omega
    k_steps
    rename_i h2 F2 N2 h3 h4 F4 N4
    have N4g := N4
    unfold Hold
    k_dflt (refine' Spec.use (row_spec2 hcap) ?sB ?sF ?sX ?sN ?sT ?s24 ?sK ?sD ?sU ?_; k_extra "x_inv"; k_whole)
    rintro v6 nw6 h6 tk6 gs6 hG6 F6 N6 ⟨K6, l, c6, vl, nwp, e6, ll, hl, hp6, hpw⟩
    subst e6
    rw [row_text hok (by omega)] at hp6
    have hvl : vl.length ≤ 200 := by rw [hp6.1]; have := rowW_len low wk i; have h9 := wGen_len hok.word; have := Nat.mul_le_mul hb.1 hb.2; omega
    have hu6 : ∀ p ∈ nw1, p ∈ nw6 := fun p hp => K6.mem0 (by repeat (first | exact hp | apply List.mem_cons_of_mem))
    have hx6 := hu6 _ hacc1
    have hd6 := hu6 _ hdx1
    clear N4g N2 F2
    k_steps
    unfold Hold
    k_dflt (refine' Spec.use (reset_spec hx6 hd6 hl hsz (by simpa using (show vl.length ≤ 1000 by omega))) ?sB ?sF ?sX ?sN ?sT ?s24 ?sK ?sD ?sU ?_; k_extra "x_inv"; k_whole)
    have nxd : dx ≠ x := led_ne N6 hd6 hx6 (by intro e; cases e)
    have N6g : News h₀ L h6 nw6 := N6
    have ninI : ∀ z : Addr, x < z → dx < z → z ∉ [x, dx] := fun z h1 h2 e => by
      rcases List.mem_cons.mp e with e | e
      · exact Nat.ne_of_gt h1 e
      · exact Nat.ne_of_gt h2 (List.mem_singleton.mp e)
    have A6 := A1.grow (m' := fun y => if y = Str.ofString "mark" then some (Value.str (sgn (low + i)) ty) else if y = Str.ofString "row" then some (Value.ref x) else m₁ y) hu6 ⟨rfl, rfl, rfl, rfl⟩
    have hO6 : ∀ a ∈ [x, dx], Off L lw lp lm a := fun a ha => by
      rcases List.mem_cons.mp ha with rfl | ha
      · exact A6.offN N6g hx6 (fun c e => by cases e) (by intro e; cases e)
      · rw [List.mem_singleton.mp ha]; exact A6.offN N6g hd6 (fun c e => by cases e) (by intro e; exact absurd (Value.type.inj e) (by decide))
    have n6 : ∀ (z : Addr) (o : Obj), (z, o) ∈ nw6 → (∀ c k, o.data ≠ .seq c k) → (∀ c k, o.data ≠ .dict c k) → z ∉ [x, dx] := fun z o hz h1 h2 e => by
      rcases List.mem_cons.mp e with e | e
      · exact led_ned N6g hz hx6 (h1 _ _) e
      · exact led_ned N6g hz hd6 (h2 _ _) (List.mem_singleton.mp e)
    rintro v8 nw8 h8 tk8 gs8 hG8 F8 N8 ⟨e8, n8, t8, hnw8⟩
    subst e8
    k_steps
    unfold Hold
    have K8 : Keep [x, dx] nw6 nw8 := fun p hp hn => by
      rw [hnw8]
      exact mem_updL_ne (mem_updL_ne hp fun e => hn (by rw [e]; exact List.mem_cons_self ..)) fun e => hn (by rw [e]; exact List.mem_cons_of_mem _ (List.mem_cons_self ..))
    have hx8 : (x, accO dx vl.toArray n8) ∈ nw8 := by rw [hnw8]; exact mem_updL_ne (mem_updL_self hx6) nxd.symm
    have hd8 : (dx, sizeO hh tkz 0 t8) ∈ nw8 := by rw [hnw8]; exact mem_updL_self (mem_updL_ne hd6 nxd)
    obtain ⟨qs1, hs1, hq1⟩ := A6.tab1
    obtain ⟨qs2, hs2, hq2⟩ := A6.tab2
    obtain ⟨o5, v5, h5', d5⟩ := A6.cAt
    have A8 := A6.step (m' := fun y => if y = Str.ofString "mark" then some (Value.str (sgn (low + i)) ty) else if y = Str.ofString "row" then some (Value.ref x) else m₁ y) K8 hO6 ⟨qs1, K8 _ hs1 (n6 _ _ hs1 (fun _ _ e => by cases e) (fun _ _ e => by cases e)), hq1⟩ ⟨qs2, K8 _ hs2 (n6 _ _ hs2 (fun _ _ e => by cases e) (fun _ _ e => by cases e)), hq2⟩ ⟨o5, v5, K8 _ h5' (n6 _ _ h5' (fun _ _ e => by rw [d5] at e; cases e) (fun _ _ e => by rw [d5] at e; cases e)), d5⟩ ⟨rfl, rfl, rfl, rfl⟩
    have hpq : ∀ q ∈ nwp, q ∈ nw8 := fun q hq => K8 _ (hpw q hq).1 (ninI _ ((hpw q hq).2.2 _ (by repeat (first | exact hacc1 | apply List.mem_cons_of_mem))) ((hpw q hq).2.2 _ (by repeat (first | exact hdx1 | apply List.mem_cons_of_mem))))
    have hRp := hR2.put (nw' := (x, accO dx vl.toArray n8) :: (dx, sizeO hh tkz 0 t8) :: (nwp ++ nwB.filter fun p => decide (p.1 ≠ x ∧ p.1 ≠ dx))) (its' := vl.toArray) (r := rowW low wk i) hD (fun p hp => N6g p (hu6 p (hB p hp).1)) hxi (by rw [hl1, hl2]) hacc hdx
      (fun p hp hn => List.mem_cons_of_mem _ (List.mem_cons_of_mem _ (List.mem_append_right _ (List.mem_filter.mpr ⟨hp, decide_eq_true ⟨fun e => hn (by rw [e]; exact List.mem_cons_self ..), fun e => hn (by rw [e]; exact List.mem_cons_of_mem _ (List.mem_cons_self ..))⟩⟩))))
      (List.mem_cons_self ..) (List.mem_cons_of_mem _ (List.mem_cons_self ..)) (hp6.sub fun p hp => List.mem_cons_of_mem _ (List.mem_cons_of_mem _ (List.mem_append_left _ hp)))
    have hhi : i < h := by omega
    refine TEnd.intro F8 N8 ?n1 (fun p hp hn => ?n2) ⟨A8, fun y h1 h2 => ?n3, _, _, _, fun p hp => ?n4, hRp, by rw [List.length_set, hl1], by rw [List.length_set, hl2], fun j hj => ?n5, fun j => ?n6⟩
    case n1 =>
      intro q hq
      have hq6 : q ∈ nw6 := K6.mem0 (List.mem_append_left nw1 hq)
      refine K8 _ hq6 (ninI _ ?_ ?_)
      · simp only [List.mem_cons, List.not_mem_nil, or_false] at hq
        rcases hq with rfl | rfl | rfl | rfl | rfl
        · exact hxI.1
        · exact hxI.2.1
        · exact hxI.2.2.1
        · exact hxI.2.2.2.1
        · exact hxI.2.2.2.2
      · simp only [List.mem_cons, List.not_mem_nil, or_false] at hq
        rcases hq with rfl | rfl | rfl | rfl | rfl
        · exact hdI.1
        · exact hdI.2.1
        · exact hdI.2.2.1
        · exact hdI.2.2.2.1
        · exact hdI.2.2.2.2
    case n2 =>
      refine K8 _ (hu6 _ (K1 p hp hn)) fun e => hn ?_
      rcases List.mem_cons.mp e with e | e
      · rw [e]; exact List.mem_append_left _ hxm
      · rw [List.mem_singleton.mp e]; exact List.mem_append_right _ hdm
    case n3 => show (if y = _ then _ else if y = _ then _ else m₁ y) = m y; rw [if_neg h2, if_neg h1]; exact e1 y h1 h2
    case n4 =>
      rcases List.mem_cons.mp hp with rfl | hp
      · exact ⟨hx8, .inl rfl⟩
      rcases List.mem_cons.mp hp with rfl | hp
      · exact ⟨hd8, .inr (.inl ⟨_, hd0, rfl⟩)⟩
      rcases List.mem_append.mp hp with hp | hp
      · exact ⟨hpq p hp, .inr (.inr (hbz _ ((hpw p hp).2.2 _ (List.mem_cons_self ..))))⟩
      · obtain ⟨hp, hne⟩ := List.mem_filter.mp hp
        have hne := of_decide_eq_true hne
        exact ⟨K8 _ (hu6 _ (hB p hp).1) (fun e => by
          rcases List.mem_cons.mp e with e | e
          · exact hne.1 e
          · exact hne.2 (List.mem_singleton.mp e)), (hB p hp).2⟩
    case n5 =>
      by_cases e : j = i
      · subst e
        exact ⟨getD_set_self (by omega), getD_set_self (by omega)⟩
      · rw [getD_set_ne (Ne.symm e), getD_set_ne (Ne.symm e)]
        exact hdone j (by omega)
    case n6 =>
      by_cases e : j = i
      · subst e
        rw [getD_set_self (by omega)]
        have h8 := hp6.1
        omega
      · rw [getD_set_ne (Ne.symm e)]; exact hshort j
  · rintro b m₁ nw1 h1 tk1 gs1 hG1 ⟨A1, e1, nwB, R2, ks2, hB, hR2, hl1, hl2, hdone, hshort⟩ K1 F1 N1
    subst hrest
    dsimp only
    have hsz : (xs.map fun p => Value.ref p.1).toArray.size = h := by simp [hxl]
    rw [hsz] at hdone
    have eR : R2 = rowsW low h wk := by
      refine List.ext_getElem (by rw [hl1, rowsW_len]) fun j h1 h2 => ?_
      have h3 := (hdone j (by omega)).1
      rw [List.getD_eq_getElem?_getD, List.getElem?_eq_getElem h1] at h3
      simpa [rowsW] using h3
    have ek : ks2 = List.replicate h 0 := by
      refine List.ext_getElem (by rw [hl2, List.length_replicate]) fun j h1 h2 => ?_
      have h3 := (hdone j (by omega)).2
      rw [List.getD_eq_getElem?_getD, List.getElem?_eq_getElem h1] at h3
      simpa using h3
    subst eR ek
    exact next m₁ nw1 h1 _ _ (by exact hG1) F1 N1 A1 e1 K1 (hR2.sub fun p hp => (hB p hp).1)
end
end
def LastIs (items : Array Value) (v : Value) : Prop := 0 < items.size ∧ items.size < 1000 ∧ items[items.size - 1]? = some v
section
variable {prog : Program} {w : World} {A : Around} {E : Value → Shared → Prop} {s : Shared} {h₀ : Heap} {L l : Addr} {news : Led} {items : Array Value} {n : Nat} {t : Tok} {v : Value}
theorem lst_subN {value slice : PySem.Expr} {ops : List Value} {Q : Value → Shared → Prop} (N : News h₀ L s.heap news) (hm : (l, listOf items n) ∈ news) (hi : LastIs items v) (h : Q v s)
    (hs : subscripted slice false (.ref l) (.int (-1) t) = operate ops (getItem (.ref l) (.int (-1) t))) : wpAny (model prog w) A (subscriptTail value slice (.ref l) (.int (-1) t)) Q E s :=
  tail_any (PySem.IsL.isList (n := n) (N _ hm).1).typeIs slot_list_getitem.lookup (wpAny_getItem_list_neg (PySem.IsL.isList (n := n) (N _ hm).1) (by omega) (by have := hi.1; omega) (by omega) (by rw [show ((-1 : Int) + (items.size : Int)).toNat = items.size - 1 by omega]; exact hi.2.2) h) hs
end
theorem rules_43_1 : True := by
  (k_with "subscriptTail" => ((k_here; (with_reducible show wpAny _ _ (subscriptTail _ _ (Value.ref _) (Value.int (-1) _)) _ _ _); k_dflt (refine' lst_subN ?z0k1 ?z0k2 ?z0k3 ?_ ?z0k7; (case z0k1 => k_asm); (case z0k2 => k_mem); (case z0k3 => with_reducible assumption); (case z0k7 => with_unfolding_all rfl); k_whole))))
  (k_with "callWith ref" => ((k_here; (with_reducible show wpAny _ _ (callWith _ (Value.ref 58) [_] _ _) _ _ _); (show wpAny _ _ (callWith _ (Value.ref 58) [_] (backTo _ (starEach (_ :: _) _)) []) _ _ _); k_dflt (refine' callWith_K ?z0k1 ?z0k2 ?_ ?z0k3 ?z0k4; (case z0k1 => k_asm); (case z0k2 => k_is); (case z0k3 => rfl); (case z0k4 => rfl); k_whole))))
  trivial
section
variable {w : World} {p : PySem.Program} {loose : List Str} {mean : ExcName → Option Value} {mg mb : Str → Option Value} {L a : Addr} {cd : Value} {h₀ : Heap} {m : Str → Option Value} {s : Shared} {Q : Flow → Shared → Prop} {nw : Led}
set_option maxHeartbeats 4000000 in
theorem law_t1 (B : Below callerA h₀ [] h₀) (F : Fr h₀ L s.heap m) (X : (hd.heap_39 w.params).In h₀) (N : News h₀ L s.heap nw) (T : Top p loose mean mg mb h₀) (X24 : h₀.get? 24 = some (set24 w.params))
   {h wd low sz : Nat} {ws wk : List Nat} {cs : List Pt} {lw lp lm lr : Addr} {nr : Nat} {xs : List (Addr × Addr)} {zz : List (Str × Str)} (hok : LawOk h wd low sz ws cs) (A : LawA L h wd low sz ws cs lw lp lm m nw) (hmr : m (Str.ofString "rows") = some (.ref lr)) (hr : (lr, listOf (xs.map fun p => Value.ref p.1).toArray nr) ∈ nw) (hT : TurnIs low h wd wk zz) (hR : RowsIn nw xs (rowsW low h wk) (List.replicate h 0))
   (next : ∀ nw' h' tk gs, Bare s.gens gs → Fr h₀ L h' m → News h₀ L h' nw' → LawA L h wd low sz ws cs lw lp lm m nw' → Keep (xs.map (·.1)) nw nw' → RowsIn nw' xs (turnR low h wk) (List.replicate h 0) →
      wpAny (model Challenge.rw_wo0004_01.row.prog w) (callerA.deeper (lawEnv L a cd)) (execs ((forBody 16).drop 3) (lawEnv L a cd)) Q (fun _ _ => False) { s with heap := h', toks := tk, gens := gs }) :
   wpAny (model Challenge.rw_wo0004_01.row.prog w) (callerA.deeper (lawEnv L a cd)) (execs ((forBody 16).drop 1) (lawEnv L a cd)) Q (fun _ _ => False) s := by
  have hb : h ≤ 5 ∧ wd ≤ 4 := shapes_small hok.shape
  have hh2 : 2 ≤ h := by have := hok.shape; simp only [shapes, List.mem_cons, Prod.mk.injEq, List.not_mem_nil, or_false] at this; omega
  obtain ⟨hRh, hRs, hRo, hRl⟩ := rowsFit_all hT.fit
  obtain ⟨hRh2, hRs2, hRo2, hRl2⟩ := rowsFit_all hT.fit2
  obtain ⟨o1, t1, hc1, hd1⟩ := A.cHigh
  obtain ⟨o4, hc4, hd4⟩ := A.cMarks
  obtain ⟨vm, n3, hlm, him⟩ := A.marks
  have hmo := marks_ok hok
  have hmlen : (marksL low h).length = h := by simp [marksL]
  have N0 : News h₀ L s.heap nw := N
  obtain ⟨rest, hrest⟩ : ∃ r, r = (forBody 16).drop 3 := ⟨_, rfl⟩
  obtain ⟨sc, hsc⟩ : ∃ sc, sc = lawScope := ⟨_, rfl⟩
  obtain ⟨st1, hst1⟩ : ∃ x, x = (forBody 16).getD 1 (.Pass default) := ⟨_, rfl⟩
  obtain ⟨st2, hst2⟩ : ∃ x, x = (forBody 16).getD 2 (.Pass default) := ⟨_, rfl⟩
  rw [show (forBody 16).drop 1 = st1 :: st2 :: rest from by rw [hrest, hst1, hst2]; exact rfl]
  unfold lawEnv
  rw [← hsc]
  conv at hst1 => rhs; whnf
  conv at hst2 => rhs; whnf
  conv at hsc => rhs; whnf
  subst hst1 hst2 hsc
  k_steps
  unfold Hold
  k_dflt (refine' Spec.use (slide_spec hr hlm him hR (by omega) (by omega) (by omega) (by rw [hmlen, hRh]) hRo hmo) ?sB ?sF ?sX ?sN ?sT ?s24 ?sK ?sD ?sU ?_; k_extra "x_inv"; k_whole)
  rintro v7 nw7 h7 tk7 gs7 hG7 F7 N7 ⟨⟨t7, e7⟩, hR7, K7⟩
  subst e7
  have hne7 : ∀ (b : Addr) (o : Obj), (b, o) ∈ nw → (∀ dx its n, o ≠ accO dx its n) → (b, o) ∈ nw7 := fun b o hb ho => K7 _ hb (hR.ne N0 hb ho)
  have A7 : LawA L h wd low sz ws cs lw lp lm m nw7 := by
    obtain ⟨ps1, hs1, hq1⟩ := A.tab1
    obtain ⟨ps2, hs2, hq2⟩ := A.tab2
    obtain ⟨o5, v5, h5, d5⟩ := A.cAt
    exact A.step K7 (hR.off A N0) ⟨ps1, hne7 _ _ hs1 (fun _ _ _ e => by cases e), hq1⟩ ⟨ps2, hne7 _ _ hs2 (fun _ _ _ e => by cases e), hq2⟩ ⟨o5, v5, hne7 _ _ h5 (fun _ _ _ e => by rw [e] at d5; cases d5), d5⟩ ⟨rfl, rfl, rfl, rfl⟩
  have hlr7 := hne7 _ _ hr (fun _ _ _ e => by cases e)
  have hc17 := hne7 _ _ hc1 (fun _ _ _ e => by rw [e] at hd1; cases hd1)
  have hc47 := hne7 _ _ hc4 (fun _ _ _ e => by rw [e] at hd4; cases hd4)
  have hlm7 := hne7 _ _ hlm (fun _ _ _ e => by cases e)
  have hat := hT.at_
  clear N0
  have hh1 : (h : Int) - 1 = ((h - 1 : Nat) : Int) := by omega
  have hxl : xs.length = h := by rw [hR7.1, hRh2]
  have hxi : xs[h - 1]? = some (xs[h - 1].1, xs[h - 1].2) := List.getElem?_eq_getElem (by omega)
  have hLx : LastIs (xs.map fun p => Value.ref p.1).toArray (.ref xs[h - 1].1) := ⟨by simp; omega, by simp; omega, by simp only [List.size_toArray, List.length_map, hxl]; rw [List.getElem?_toArray, List.getElem?_map, hxi]; rfl⟩
  obtain ⟨tl, htl⟩ := him.get (h - 1) (sgn (low + (h - 1))) (by rw [marksL, List.getElem?_map, List.getElem?_range (by omega)]; rfl)
  have hvm : vm.length = h := by rw [him.length, hmlen]
  have hLm : LastIs vm.toArray (.str (sgn (low + (h - 1))) tl) := ⟨by simp; omega, by simp; omega, by simp [hvm, htl]⟩
  have hxm : xs[h - 1].1 ∈ xs.map (·.1) := List.mem_map_of_mem (List.getElem_mem _)
  generalize xs[h - 1].1 = x at *
  generalize xs[h - 1].2 = dx at *
  obtain ⟨its, n, hh, tkz, tz, hacc, hdx, hp⟩ := hR7.2.2 (h - 1) x dx hxi
  have hsz : its.size ≤ 1000 := by
    have h9 := hp.1
    have h8 := len_get (slideF (marksL low h) (rowsW low h wk)).2 (h - 1)
    rw [Array.length_toList] at h9; omega
  have N7g : News h₀ L h7 nw7 := N7
  have hcx : ∀ nw', Keep [x] nw7 nw' → PairsIn nw' its.toList ((slideF (marksL low h) (rowsW low h wk)).2.getD (h - 1) []) := fun nw' hk => hp.keepC N7g (C := [x]) (fun a ha => by obtain rfl := List.mem_singleton.mp ha; exact ⟨_, hacc, by intro e; cases e⟩) hk
  have hput : ∀ nw' its' n', Keep [x] nw7 nw' → (x, accO dx its' n') ∈ nw' → PairsIn nw' its'.toList ((slideF (marksL low h) (rowsW low h wk)).2.getD (h - 1) [] ++ [(sgn (low + (h - 1)), sgn 90)]) → RowsIn nw' xs (turnR low h wk) (List.replicate h 0) := fun nw' its' n' hk h1 h2 => hR7.set N7g hxi hacc (fun p hp hn => hk p hp (by simpa using hn)) h1 h2
  have hstep : ∀ nw', Keep [x] nw7 nw' → LawA L h wd low sz ws cs lw lp lm m nw' := fun nw' hk => by
    obtain ⟨ps1, hs1, hq1⟩ := A7.tab1
    obtain ⟨ps2, hs2, hq2⟩ := A7.tab2
    obtain ⟨o5, v5, h5, d5⟩ := A7.cAt
    exact A7.step hk (fun a ha => by rw [List.mem_singleton.mp ha]; exact A7.offN N7g hacc (fun c e => by cases e) (by intro e; cases e)) ⟨ps1, hk.mem1 hs1 (led_ne N7g hs1 hacc (by intro e; cases e)), hq1⟩ ⟨ps2, hk.mem1 hs2 (led_ne N7g hs2 hacc (by intro e; cases e)), hq2⟩ ⟨o5, v5, hk.mem1 h5 (led_ned N7g h5 hacc (by rw [d5]; intro e; cases e)), d5⟩ ⟨rfl, rfl, rfl, rfl⟩
  clear N7g
  k_steps
  · rename_i a9
    exact absurd (by rw [hat]; omega) a9
  rename_i h9 tk9 gs9 hG9 F9 q9 l9 ne9 N9
  subst hrest
  have hZ : Str.ofString "Z" = sgn 90 := by decide +kernel
  refine next _ _ _ _ ?hb F9 N9 (hstep _ (fun p hp hn => ?k1)) (fun p hp hn => ?k2) (hput _ _ _ (fun p hp hn => ?k3) (List.mem_cons_of_mem _ (mem_updL_self hacc)) ?pp)
  case hb => exact Bare.trans (by exact hG7) (by exact hG9)
  case k1 => exact List.mem_cons_of_mem _ (mem_updL_ne hp (by simpa using hn))
  case k3 => exact List.mem_cons_of_mem _ (mem_updL_ne hp (by simpa using hn))
  case k2 => exact List.mem_cons_of_mem _ (mem_updL_ne (K7 _ hp hn) (fun e => hn (by rw [e]; exact hxm)))
  case pp =>
    rw [Array.toList_push, ← hZ]
    exact PairsIn.snoc (hcx _ (fun p hp hn => List.mem_cons_of_mem _ (mem_updL_ne hp (by simpa using hn)))) (List.mem_cons_self ..)
end
theorem rules_44_1 : True := by
  (k_with "eval ListComp" => ((k_here; (with_reducible show wpAny _ _ (eval (Expr.ListComp _ [_, _] _ _) _) _ _ _); refine Hold.in ?_)))
  trivial
section
variable {w : World} {p : PySem.Program} {loose : List Str} {mean : ExcName → Option Value} {mg mb : Str → Option Value} {L a : Addr} {cd : Value} {h₀ : Heap} {m : Str → Option Value} {s : Shared} {Q : Flow → Shared → Prop} {nw : Led}
set_option maxHeartbeats 4000000 in
theorem law_t3 (B : Below callerA h₀ [] h₀) (F : Fr h₀ L s.heap m) (X : (hd.heap_39 w.params).In h₀) (N : News h₀ L s.heap nw) (T : Top p loose mean mg mb h₀) (X24 : h₀.get? 24 = some (set24 w.params))
   {h wd low sz : Nat} {ws wk : List Nat} {cs : List Pt} {lw lp lm lr : Addr} {nr : Nat} {xs : List (Addr × Addr)} {zz : List (Str × Str)} {ks : List Int} (hok : LawOk h wd low sz ws cs) (A : LawA L h wd low sz ws cs lw lp lm m nw) (hmr : m (Str.ofString "rows") = some (.ref lr)) (hr : (lr, listOf (xs.map fun p => Value.ref p.1).toArray nr) ∈ nw) (hT : TurnIs low h wd wk zz) (hR : RowsIn nw xs (turnR low h wk) ks)
   (next : ∀ l vl c m' nw' h' tk gs, Bare s.gens gs → Fr h₀ L h' m' → News h₀ L h' nw' → Keep [] nw nw' → m' (Str.ofString "left") = some (.ref l) → (∀ y, y ≠ Str.ofString "left" → m' y = m y) → (l, listOf vl.toArray c) ∈ nw' → PairsIn nw' vl zz →
      wpAny (model Challenge.rw_wo0004_01.row.prog w) (callerA.deeper (lawEnv L a cd)) (execs ((forBody 16).drop 5) (lawEnv L a cd)) Q (fun _ _ => False) { s with heap := h', toks := tk, gens := gs }) :
   wpAny (model Challenge.rw_wo0004_01.row.prog w) (callerA.deeper (lawEnv L a cd)) (execs ((forBody 16).drop 3) (lawEnv L a cd)) Q (fun _ _ => False) s := by
  have hb : h ≤ 5 ∧ wd ≤ 4 := shapes_small hok.shape
  obtain ⟨hRh, hRs, hRo, hRl⟩ := rowsFit_all hT.fit3
  obtain ⟨o1, t1, hc1, hd1⟩ := A.cHigh
  obtain ⟨tw, hmw⟩ := A.nWide
  have hm10 : h * wd ≤ 20 := Nat.le_trans (Nat.mul_le_mul hb.1 hb.2) (by decide)
  have hhw : (h : Int) * (wd : Int) = ((h * wd : Nat) : Int) := by simp
  obtain ⟨rest, hrest⟩ : ∃ r, r = (forBody 16).drop 5 := ⟨_, rfl⟩
  obtain ⟨sc, hsc⟩ : ∃ sc, sc = lawScope := ⟨_, rfl⟩
  obtain ⟨st3, hst3⟩ : ∃ x, x = (forBody 16).getD 3 (.Pass default) := ⟨_, rfl⟩
  obtain ⟨st4, hst4⟩ : ∃ x, x = (forBody 16).getD 4 (.Pass default) := ⟨_, rfl⟩
  rw [show (forBody 16).drop 3 = st3 :: st4 :: rest from by rw [hrest, hst3, hst4]; exact rfl]
  unfold lawEnv
  rw [← hsc]
  conv at hst3 => rhs; whnf
  conv at hst4 => rhs; whnf
  conv at hsc => rhs; whnf
  subst hst3 hst4 hsc
  k_steps
  unfold Hold
  refine lc_left (by k_asm) X (by k_asm) hr hR (by omega) rfl ?hev (by with_unfolding_all rfl) (by decide) rfl (by decide) rfl rfl rfl (by decide) (by decide) (by decide) (by decide) (by intro _; with_unfolding_all rfl) ?_
  case hev =>
    intro Q9 hq9
    exact wpAny_Name (wpAny_loadName_local rfl rfl F.ns hmr hq9) (by decide)
  intro D h2 tk2 vs nw2 hD F2 N2 K2 hp2
  have hfl : ((turnR low h wk).flatten.map swapP).length = h * wd := by rw [List.length_map]; exact hT.much
  have h44 : 4 ≤ h * wd := by have := hok.shape; simp only [shapes, List.mem_cons, Prod.mk.injEq, List.not_mem_nil, or_false] at this; rcases this with ⟨rfl, rfl⟩ | ⟨rfl, rfl⟩ | ⟨rfl, rfl⟩ | ⟨rfl, rfl⟩ <;> decide
  have hK2 : ∀ p ∈ nw, p ∈ nw2 := fun p hp => K2.mem0 hp
  k_steps
  unfold Hold
  refine sorted_pairs F2 N2 (List.mem_cons_self ..) (hp2.sub fun p hp => List.mem_cons_of_mem _ hp) (by omega) (by omega) hT.sort ?_
  intro D3 vs3 c3 h3 F3 N3 hp3
  have hlen3 : vs3.length = h * wd := by rw [hp3.1, hT.len]
  have hl1 : vs3.length ≤ 1000 := by omega
  have hl2 : vs3.length ≤ 100000 := by omega
  have hc13 := hK2 _ hc1
  k_steps
  · rename_i a9
    exact absurd (by rw [hlen3, hhw]) a9
  · rename_i h4 F4 N4 _ _
    subst hrest
    dsimp only
    refine next D3 vs3 c3 _ _ h4 _ _ ?hb F4 N4 (fun p hp _ => List.mem_cons_of_mem _ (List.mem_cons_of_mem _ (hK2 p hp))) rfl (fun y hy => if_neg hy) (List.mem_cons_self ..) hp3
    case hb => exact Bare.refl _
end
section
variable {prog : Program} {w : World} {A : Around} {E : Value → Shared → Prop} {s : Shared} {env : Env} {h₀ : Heap} {L : Addr} {m : Str → Option Value} {news : Led} {elt : PySem.Expr} {ifs : List PySem.Expr} {scope : Scope} {cl : List (Str × Addr)} {Fin : Addr → Led → Shared → Prop} {xa xb xc : Str} {pa pb pc p1 tp : Pos} {k1 tn : Nat}
theorem asg_nest {C T q : Addr} {u1 u2 v : Value} {m₃ : Str → Option Value} {Q : Unit → Shared → Prop} (hh : A.handled = none) (hxa : scope.names.lookup xa = some .local) (hxb : scope.names.lookup xb = some .local) (hxc : scope.names.lookup xc = some .local) (hab : xa ≠ xb) (hac : xa ≠ xc) (hbc : xb ≠ xc) (hkind : scope.kind = .function) (hn : s.heap.Ns C m₃)
    (hT : IsTup s.heap T #[.ref q, v]) (hq : IsTup s.heap q #[u1, u2])
    (h : ∀ h' tk m₄, h'.Ns C m₄ → (m₄ xa = some u1 ∧ m₄ xb = some u2 ∧ m₄ xc = some v) → (∀ b o, b ≠ C → s.heap.get? b = some o → h'.get? b = some o) → Q () { s with heap := h', toks := tk }) :
    wpAny (model prog w) A (assign (.Tuple [.Tuple [.Name xa pa, .Name xb pb] k1 p1, .Name xc pc] tn tp) (compEnvC scope cl C env) (.ref T)) Q E s := by
  refine assign_Tuple_tuple hh hT rfl rfl fun h₅ he => ?_
  have he' : ∀ b o, s.heap.get? b = some o → h₅.get? b = some o := fun b o e => he b o (Nat.ne_of_lt (Heap.lt_size e)) e
  refine assignInOrder_cons (asg_pair (tk := k1) hh hxa hxb hab hkind (hn.at' fun o e => he' _ o e) (by obtain ⟨o, ho, r⟩ := hq; exact ⟨o, he' _ _ ho, r⟩) fun h₆ tk₆ m₆ hn₆ hm₆ hs₆ => ?_)
  refine assignInOrder_cons (asg_name hxc hkind hn₆ fun h₇ tk₇ m₇ hn₇ hm₇ hs₇ => ?_)
  exact assignInOrder_nil (h h₇ _ m₇ hn₇ ⟨(hm₇.2 xa hac).trans hm₆.1, (hm₇.2 xb hbc).trans hm₆.2.1, hm₇.1⟩ fun b o hb e => hs₇ b o hb (hs₆ b o hb (he' b o e)))
theorem lc_zipN {l1 l2 : Addr} {vs1 : List Value} {zs : List (Str × Str)} {ys₀ : Array Value} {n1 n2 : Nat} (hxa : scope.names.lookup xa = some .local) (hxb : scope.names.lookup xb = some .local) (hxc : scope.names.lookup xc = some .local) (hab : xa ≠ xb) (hac : xa ≠ xc) (hbc : xb ≠ xc) (hkind : scope.kind = .function) (hh : A.handled = none) (hm1 : (l1, listOf vs1.toArray n1) ∈ news) (hp1 : PairsIn news vs1 zs) (hm2 : (l2, listOf ys₀ n2) ∈ news) (hsz : vs1.length ≤ sizeLine) (hsame : ys₀.size = vs1.length)
    (F : Fr h₀ L s.heap m) (N : News h₀ L s.heap news) (J : Nat → List Value → Prop) (J0 : J 0 [])
    (turn : ∀ (i : Nat) (a b : Str) t u v ys nw m₂ C oC D I oI I1 oI1 I2 oI2 I3 oI3 I4 oI4 h tk (E' : Value → Shared → Prop), zs[i]? = some (a, b) → ys₀[i]? = some v → m₂ xa = some (.str a t) → m₂ xb = some (.str b u) → m₂ xc = some v → J i ys → Keep [] news nw → LCg.NsObj oC m₂ → Fr h₀ L h m → News h₀ L h ((I, oI) :: (I1, oI1) :: (I2, oI2) :: (I3, oI3) :: (I4, oI4) :: (C, oC) :: (D, lcObj ys) :: nw) →
      LcTurn prog w A h₀ L m env ifs elt scope cl C { s with heap := h, toks := tk } [(I, oI), (I1, oI1), (I2, oI2), (I3, oI3), (I4, oI4), (C, oC), (D, lcObj ys)] news (fun ys _ => J (i + 1) ys) ys E')
    (fin : ∀ D h tk ys nw, (∀ p ∈ news, p.1 < D) → Keep [] news nw → J vs1.length ys → Fin D ((D, lcObj ys) :: nw) { s with heap := h, toks := tk }) :
    wpAny (model prog w) A (call (.type "zip") [.ref l1, .ref l2]) (fun xv s₁ => wpAny (model prog w) A (pyIter xv) (LcAt prog w A h₀ L m env (.Tuple [.Tuple [.Name xa pa, .Name xb pb] k1 p1, .Name xc pc] tn tp) ifs elt scope cl Fin) E s₁) E s := by
  refine src_zip (elts := [.Tuple [.Name xa pa, .Name xb pb] k1 p1, .Name xc pc]) (tk := tn) (tp := tp) (xs := vs1) (ys := ys₀.toList) hh F N hm1 rfl rfl hm2 rfl rfl fun lim h' S F' N' hL hlim => ?_
  have hl1 := hp1.1
  refine ⟨lim, _, _, _, _, _, news, rfl, S, F', N', hL, hlim, (fun p hp => by simp at hp; rcases hp with rfl | rfl <;> assumption), ?_, by simp, (fun i m₂ => ∃ a b t u v, zs[i]? = some (a, b) ∧ ys₀[i]? = some v ∧ m₂ xa = some (.str a t) ∧ m₂ xb = some (.str b u) ∧ m₂ xc = some v), (fun _ => False), (fun i ys _ => J i ys), ?_, (fun _ h => h.elim), (fun _ h => h.elim), J0, (fun _ _ _ _ h _ => h), ?_, fun D h tk ys nw hD hK hJ => fin D h tk ys nw hD hK (by simpa [hsame] using hJ)⟩
  · have : min vs1.length ys₀.toList.length ≤ vs1.length := by simp; omega
    exact Nat.le_trans this hsz
  · rintro i v C s₁ m₃ Q E hi ⟨T, a, b, rfl, ha, hb, hT⟩ hN hn hQ
    have hiz : i < zs.length := by rw [← hl1]; exact (List.getElem?_eq_some_iff.mp ha).1
    obtain ⟨q, t, u, e1, e2⟩ := hp1.2 i zs[i] (List.getElem?_eq_getElem hiz)
    obtain rfl : a = .ref q := by rw [ha] at e1; exact Option.some.inj e1
    exact asg_nest hh hxa hxb hxc hab hac hbc hkind hn hT ⟨_, hN _ e2, rfl, _, rfl⟩ fun h' tk m₄ hn' hm hk => hQ h' tk m₄ hn' ⟨_, _, t, u, b, List.getElem?_eq_getElem hiz, by simpa using hb, hm.1, hm.2.1, hm.2.2⟩ hk
  · rintro i ys nw m₂ C oC D h tk E' hi ⟨a, b, t, u, v, hz, hv, h1, h2, h3⟩ hJ hK hC F₁ o ho o1 ho1 o2 ho2 o3 ho3 o4 ho4 N₁
    exact turn i a b t u v ys nw m₂ C oC D _ o _ o1 _ o2 _ o3 _ o4 h tk E' hz hv h1 h2 h3 hJ hK hC F₁ N₁
end
section
variable {w : World} {p : PySem.Program} {loose : List Str} {mean : ExcName → Option Value} {mg mb : Str → Option Value} {L a : Addr} {cd : Value} {h₀ : Heap} {m : Str → Option Value} {s : Shared} {Q : Flow → Shared → Prop} {nw : Led}
set_option maxHeartbeats 4000000 in
theorem law_t5 (B : Below callerA h₀ [] h₀) (F : Fr h₀ L s.heap m) (X : (hd.heap_39 w.params).In h₀) (N : News h₀ L s.heap nw) (T : Top p loose mean mg mb h₀) (X24 : h₀.get? 24 = some (set24 w.params))
   {h wd low sz c k : Nat} {ws wk : List Nat} {cs : List Pt} {lw lp lm l : Addr} {vl : List Value} {zz : List (Str × Str)} {tt : Tok} (hok : LawOk h wd low sz ws cs) (hokw : LawOk h wd low sz wk cs) (A : LawA L h wd low sz ws cs lw lp lm m nw) (hml : m (Str.ofString "left") = some (.ref l)) (hmt : m (Str.ofString "turn") = some (.int (k : Int) tt)) (hl : (l, listOf vl.toArray c) ∈ nw) (hp : PairsIn nw vl zz) (hT : TurnIs low h wd wk zz) (hk : k = 0 → wk = ws)
   (next : ∀ m' nw' h' tk gs t, Bare s.gens gs → Fr h₀ L h' m' → News h₀ L h' nw' → Keep [] nw nw' → m' (Str.ofString "now") = some (.str (mkS (textC low (passQ wk) (partCodes cs))) t) → (∀ y, y ≠ Str.ofString "now" → m' y = m y) →
      Q .next { s with heap := h', toks := tk, gens := gs }) :
   wpAny (model Challenge.rw_wo0004_01.row.prog w) (callerA.deeper (lawEnv L a cd)) (execs ((forBody 16).drop 5) (lawEnv L a cd)) Q (fun _ _ => False) s := by
  have hb : h ≤ 5 ∧ wd ≤ 4 := shapes_small hok.shape
  have hm10 : h * wd ≤ 20 := Nat.le_trans (Nat.mul_le_mul hb.1 hb.2) (by decide)
  have hokp := hokw.pass
  have hwl : (passQ wk).length = h * wd := wGen_len hokp.word
  obtain ⟨vp, n2, hlp, hip⟩ := A.parts
  have hmp := A.nParts
  obtain ⟨o3, hc3, hd3⟩ := A.cWord
  obtain ⟨o4, hc4, hd4⟩ := A.cMarks
  obtain ⟨vw, n1, hlw, hiw⟩ := A.word
  obtain ⟨vm, n3, hlm, him⟩ := A.marks
  have hvp : vp.length = h * wd := by rw [hip.length, List.length_map, partCodes_len, hok.parts]
  have hvl : vl.length = h * wd := by rw [hp.1, hT.len]
  have hfit := text_fit hokp
  have hlen : (textL low (passQ wk) (partCodes cs)).length = h * wd := by simp [textL, hwl, partCodes_len, hok.parts]
  obtain ⟨rest, hrest⟩ : ∃ r, r = (forBody 16).drop 7 := ⟨_, rfl⟩
  obtain ⟨sc, hsc⟩ : ∃ sc, sc = lawScope := ⟨_, rfl⟩
  obtain ⟨st5, hst5⟩ : ∃ x, x = (forBody 16).getD 5 (.Pass default) := ⟨_, rfl⟩
  obtain ⟨st6, hst6⟩ : ∃ x, x = (forBody 16).getD 6 (.Pass default) := ⟨_, rfl⟩
  rw [show (forBody 16).drop 5 = st5 :: st6 :: rest from by rw [hrest, hst5, hst6]; exact rfl]
  unfold lawEnv
  rw [← hsc]
  conv at hst5 => rhs; whnf
  conv at hst6 => rhs; whnf
  conv at hsc => rhs; whnf
  subst hst5 hst6 hsc
  k_steps
  unfold Hold
  refine lc_zipN rfl rfl rfl (by decide) (by decide) (by decide) rfl rfl hl hp hlp (le_sizeLine (by omega)) (by simp; omega) F N (fun i ys => StrsAre ys (((textL low (passQ wk) (partCodes cs)).take i).map mkS)) .nil ?_ ?_
  · intro i la lb ta tb v ys nw1 m₂ C oC D I oI I1 oI1 I2 oI2 I3 oI3 I4 oI4 h1 tk1 E' hz hv e1 e2 e3 hJ hK hC F1 N1
    obtain ⟨pc, tp, rfl, hpc⟩ := mk_item hip (by simpa using hv)
    obtain ⟨r, hr, hlb⟩ : ∃ r, (passQ wk)[i]? = some r ∧ lb = sgn (low + r) := by
      have h1 : (zz.map (·.2))[i]? = some lb := by rw [List.getElem?_map, hz]; rfl
      rw [hT.marks, List.getElem?_map] at h1
      cases e : (passQ wk)[i]? with
      | none => rw [e] at h1; cases h1
      | some r => rw [e] at h1; exact ⟨r, rfl, (Option.some.inj h1).symm⟩
    have hpl := part_len (List.mem_of_getElem? hpc)
    have hl1 : lb.length ≤ 100000 := by rw [hlb]; show 1 ≤ 100000; omega
    have hl2 : (mkS pc).length ≤ 100000 := by show pc.toArray.size ≤ 100000; simp; omega
    have hT9 : (textL low (passQ wk) (partCodes cs)).take (i + 1) = (textL low (passQ wk) (partCodes cs)).take i ++ [(low + r) :: pc] := by
      rw [List.take_add_one, textL, List.getElem?_zipWith, hr, hpc]; rfl
    have hv9 : lb ++ mkS pc = mkS ((low + r) :: pc) := by rw [hlb]; exact sgn_app _ _
    refine wpAny_tests_nil ?_
    k_steps
    refine LcEnd.intro (by k_asm) (by k_asm) (fun p hp => List.mem_append_left nw1 hp) (by k_updF) ?_
    show StrsAre _ _
    rw [hT9, List.map_append, hv9]
    exact strs_snoc hJ _ _
  · intro D h1 tk1 ys nw1 hD hK hJ
    rw [List.take_of_length_le (by omega)] at hJ
    intro F1 N1
    have hk1 : ∀ p ∈ nw, p ∈ nw1 := fun p hp => hK.mem0 hp
    have hc31 := hk1 _ hc3
    have hc41 := hk1 _ hc4
    have hlw1 := hk1 _ hlw
    have hlm1 := hk1 _ hlm
    have hlp1 := hk1 _ hlp
    have fin : ∀ (h9 : Heap) (tk9 : Nat) (gs9 : Array GenState) (nw9 : Led) (t9 : Tok), Bare s.gens gs9 → Fr h₀ L h9 (fun y => if y = Str.ofString "now" then some (Value.str (Txt.join (Str.ofString "") ((textL low (passQ wk) (partCodes cs)).map mkS)) t9) else m y) → News h₀ L h9 nw9 → (∀ p ∈ nw1, p ∈ nw9) → Q .next { s with heap := h9, toks := tk9, gens := gs9 } := fun h9 tk9 gs9 nw9 t9 b9 F9 N9 k9 => by
      rw [show Txt.join (Str.ofString "") ((textL low (passQ wk) (partCodes cs)).map mkS) = mkS (textC low (passQ wk) (partCodes cs)) from join_mkS _] at F9
      exact next _ nw9 h9 tk9 gs9 t9 b9 F9 N9 (fun p hp _ => k9 p (hk1 p hp)) rfl (fun y hy => if_neg hy)
    k_steps
    · rename_i t2 k2 h2 F2 N2 a2
      obtain rfl : wk = ws := hk (by omega)
      have hmlen : (marksL low h).length = h := by simp [marksL]
      unfold Hold
      have hw9 : 1 ≤ wk.length ∧ wk.length ≤ 100 := by
        have h9 := wGen_len hok.word
        have h44 : 4 ≤ h * wd := by have := hok.shape; simp only [shapes, List.mem_cons, Prod.mk.injEq, List.not_mem_nil, or_false] at this; rcases this with ⟨rfl, rfl⟩ | ⟨rfl, rfl⟩ | ⟨rfl, rfl⟩ | ⟨rfl, rfl⟩ <;> decide
        omega
      k_dflt (refine' Spec.use (pass_spec (List.mem_cons_of_mem _ hlw1) hiw hw9) ?sB ?sF ?sX ?sN ?sT ?s24 ?sK ?sD ?sU ?_; k_extra "x_inv"; k_whole)
      rintro v3 nw3 h3 tk3 gs3 hG3 F3 N3 ⟨K3, l3, c3, v3', e3, hl3, hi3⟩
      subst e3
      rw [passF_eq] at hi3
      have hk3 : ∀ p ∈ nw1, p ∈ nw3 := fun p hp => K3.mem0 (List.mem_cons_of_mem _ hp)
      have hv3 : v3'.length = h * wd := by rw [ints_len hi3, List.length_map, hwl]
      have hlp3 := hk3 _ hlp1
      k_steps
      unfold Hold
      refine lc_zip (xs := v3'.toArray) (ys₀ := vp.toArray) rfl rfl (by decide) rfl rfl hl3 hlp3 (le_sizeLine (by simp; omega)) (by simp; omega) F3 N3 (fun i ys => StrsAre ys (((textL low (passQ wk) (partCodes cs)).take i).map mkS)) .nil ?_ ?_
      · intro i u v ys4 nw4 m₂ C oC D4 I oI I1 oI1 I2 oI2 I3 oI3 I4 oI4 h4 tk4 E' hu hv e1 e2 hJ4 hK4 hC F4 N4
        obtain ⟨r, tr, rfl, hr⟩ := nats_item hi3 (by simpa using hu)
        obtain ⟨pc, tp, rfl, hpc⟩ := mk_item hip (by simpa using hv)
        have hrh := row_lt hokp r (List.mem_of_getElem? hr)
        have hc44 := hK4.mem0 (hk3 _ hc41)
        have hlm4 := hK4.mem0 (hk3 _ hlm1)
        have hr0 : (0 : Int) ≤ (r : Int) := by omega
        have hrl : (r : Int) < (marksL low h).length := by rw [hmlen]; omega
        have hgr : (marksL low h).getD (Int.toNat (r : Int)) ⟨#[]⟩ = sgn (low + r) := by rw [Int.toNat_natCast]; exact marksL_get hrh
        have hl1 : ((marksL low h).getD (Int.toNat (r : Int)) ⟨#[]⟩).length ≤ 100000 := by rw [hgr]; show 1 ≤ 100000; omega
        have hpl := part_len (List.mem_of_getElem? hpc)
        have hl2 : (mkS pc).length ≤ 100000 := by show pc.toArray.size ≤ 100000; simp; omega
        have hT9 : (textL low (passQ wk) (partCodes cs)).take (i + 1) = (textL low (passQ wk) (partCodes cs)).take i ++ [(low + r) :: pc] := by
          rw [List.take_add_one, textL, List.getElem?_zipWith, hr, hpc]; rfl
        have hv9 : (marksL low h).getD (Int.toNat (r : Int)) ⟨#[]⟩ ++ mkS pc = mkS ((low + r) :: pc) := by rw [hgr]; exact sgn_app _ _
        refine wpAny_tests_nil ?_
        k_steps
        refine LcEnd.intro (by k_asm) (by k_asm) (fun p hp => List.mem_append_left nw4 hp) (by k_updF) ?_
        show StrsAre _ _
        rw [hT9, List.map_append, hv9]
        exact strs_snoc hJ4 _ _
      · intro D4 h4 tk4 ys4 nw4 hD4 hK4 hJ4
        rw [List.take_of_length_le (show (textL low (passQ wk) (partCodes cs)).length ≤ v3'.toArray.size by rw [hlen, List.size_toArray, hv3]; exact Nat.le_refl _)] at hJ4
        intro F4 N4
        have heq : Txt.join (Str.ofString "") ((textL low (passQ wk) (partCodes cs)).map mkS) = Txt.join (Str.ofString "") ((textL low (passQ wk) (partCodes cs)).map mkS) := rfl
        k_steps
        subst hrest
        dsimp only
        show wpAny _ _ (execs [] _) _ _ _
        refine wpAny_execs_nil ?_
        exact fin _ _ _ _ _ (by exact hG3) F4 N4 fun p hp => List.mem_cons_of_mem _ (hK4.mem0 (hk3 p hp))
    · rename_i t2 k2 h2 F2 N2 _ a2
      subst hrest
      dsimp only
      show wpAny _ _ (execs [] _) _ _ _
      refine wpAny_execs_nil ?_
      exact fin _ _ _ _ _ (Bare.refl _) F2 N2 fun p hp => List.mem_cons_of_mem _ hp
end
theorem empties_fit : ∀ h, h ≤ 5 → rowsFit h (List.replicate h []) = true := by decide
inductive S15 (L : Addr) (h wd low sz : Nat) (ws : List Nat) (cs : List Pt) (lw lp lm lr : Addr) (nr : Nat) (xs : List (Addr × Addr)) (k : Nat) (m : Str → Option Value) (nw : Led) : Prop
  | mk (_ : LawA L h wd low sz ws cs lw lp lm m nw) (_ : m (Str.ofString "rows") = some (.ref lr)) (_ : ∃ t, m (Str.ofString "now") = some (.str (mkS (textC low (iterQ k ws) (partCodes cs))) t)) (_ : (lr, listOf (xs.map fun p => Value.ref p.1).toArray nr) ∈ nw) (R : List (List (Str × Str))) (ks : List Int) (_ : RowsIn nw xs R ks) (_ : rowsFit h R = true) (_ : ks.length = h) (_ : 0 < k → R = turnR low h (iterQ (k - 1) ws) ∧ ks = List.replicate h 0)
section
variable {w : World} {p : PySem.Program} {loose : List Str} {mean : ExcName → Option Value} {mg mb : Str → Option Value} {L a : Addr} {cd : Value} {h₀ : Heap} {m : Str → Option Value} {s : Shared} {Q : Flow → Shared → Prop} {nw : Led}
set_option maxHeartbeats 4000000 in
theorem law_s15 (B : Below callerA h₀ [] h₀) (F : Fr h₀ L s.heap m) (X : (hd.heap_39 w.params).In h₀) (N : News h₀ L s.heap nw) (T : Top p loose mean mg mb h₀) (X24 : h₀.get? 24 = some (set24 w.params))
   {h wd low sz : Nat} {ws : List Nat} {cs : List Pt} {lw lp lm lr : Addr} {nr : Nat} {xs : List (Addr × Addr)} (hok : LawOk h wd low sz ws cs) (A : LawA L h wd low sz ws cs lw lp lm m nw) (hmr : m (Str.ofString "rows") = some (.ref lr)) (hr : (lr, listOf (xs.map fun p => Value.ref p.1).toArray nr) ∈ nw) (hR : RowsIn nw xs (List.replicate h []) (List.replicate h (sz : Int))) (hD : D2 xs)
   (next : ∀ wk m' nw' h' tk gs t, Bare s.gens gs → Fr h₀ L h' m' → News h₀ L h' nw' → LawA L h wd low sz ws cs lw lp lm m' nw' → m' (Str.ofString "rows") = some (.ref lr) → m' (Str.ofString "now") = some (.str (mkS (textC low ws (partCodes cs))) t) → (lr, listOf (xs.map fun p => Value.ref p.1).toArray nr) ∈ nw' → LawOk h wd low sz wk cs → RowsIn nw' xs (turnR low h wk) (List.replicate h 0) →
      wpAny (model Challenge.rw_wo0004_01.row.prog w) (callerA.deeper (lawEnv L a cd)) (execs (lawBody.drop 17) (lawEnv L a cd)) Q (fun _ _ => False) { s with heap := h', toks := tk, gens := gs }) :
   wpAny (model Challenge.rw_wo0004_01.row.prog w) (callerA.deeper (lawEnv L a cd)) (execs (lawBody.drop 15) (lawEnv L a cd)) Q (fun _ _ => False) s := by
  have hb : h ≤ 5 ∧ wd ≤ 4 := shapes_small hok.shape
  obtain ⟨o1, t1, hc1, hd1⟩ := A.cHigh
  obtain ⟨tw, hmw⟩ := A.nWide
  obtain ⟨tt, hmt⟩ := A.nText
  have hm10 : h * wd ≤ 20 := Nat.le_trans (Nat.mul_le_mul hb.1 hb.2) (by decide)
  have h44 : 4 ≤ h * wd := by have := hok.shape; simp only [shapes, List.mem_cons, Prod.mk.injEq, List.not_mem_nil, or_false] at this; rcases this with ⟨rfl, rfl⟩ | ⟨rfl, rfl⟩ | ⟨rfl, rfl⟩ | ⟨rfl, rfl⟩ <;> decide
  have hhw : (h : Int) * (wd : Int) = ((h * wd : Nat) : Int) := by simp
  obtain ⟨rest, hrest⟩ : ∃ r, r = lawBody.drop 17 := ⟨_, rfl⟩
  obtain ⟨sc, hsc⟩ : ∃ sc, sc = lawScope := ⟨_, rfl⟩
  obtain ⟨st15, hst15⟩ : ∃ x, x = lawAt 15 := ⟨_, rfl⟩
  obtain ⟨st16, hst16⟩ : ∃ x, x = lawAt 16 := ⟨_, rfl⟩
  rw [show lawBody.drop 15 = st15 :: st16 :: rest from by rw [hrest, hst15, hst16]; exact rfl]
  unfold lawEnv
  rw [← hsc]
  conv at hst15 => rhs; whnf
  conv at hst16 => rhs; whnf
  conv at hsc => rhs; whnf
  subst hst15 hst16 hsc
  k_steps
  rename_i h2 F2 N2 h3 tk3 t₁ u₁ v₁ hr3 F3 N3 hk3
  unfold Hold
  have nm0 : ∀ y, y ≠ Str.ofString "now" → (fun y => if y = Str.ofString "now" then some (Value.str (mkS (textC low ws (partCodes cs))) tt) else m y) y = m y := fun y hy => if_neg hy
  have A3 := A.grow (m' := fun y => if y = Str.ofString "now" then some (Value.str (mkS (textC low ws (partCodes cs))) tt) else m y) (nw' := nw) (fun p hp => hp) ⟨nm0 _ (by decide), nm0 _ (by decide), nm0 _ (by decide), nm0 _ (by decide)⟩
  refine forO_range (n := h * wd) rfl hr3 (rng0 hhw (by omega)).1 (rng0 hhw (by omega)).2 F3 N3 (xs.map (·.1) ++ xs.map (·.2))
    (S15 L h wd low sz ws cs lw lp lm lr nr xs) ?_ ?_ ?_ ?_
  · exact ⟨A3, hmr, ⟨tt, rfl⟩, hr, _, _, hR, empties_fit h hb.1, by simp, fun h0 => absurd h0 (by omega)⟩
  · rintro k m' nw1 nw2 ⟨a1, a2, a3, a4, R, ks, a5, a6, a7, a8⟩ kk
    exact ⟨A3.mono a1 fun p hp hq => kk p hp (.inr hq), a2, a3, kk _ a4 (.inl (.inl rfl)), R, ks, a5.monoD fun p hp hd => kk p hp (.inl hd), a6, a7, a8⟩
  · rintro k u I oI m₁ nw1 h4 tk4 gs4 hG4 hk ⟨A4, hmr4, ⟨tn, hmn4⟩, hr4, R, ks, hR4, hf4, hks4, _⟩ K4 hlt ho F4 N4
    generalize hbd : (forBody 16) = bd
    show wpAny _ _ (assign _ _ _) (fun _ s₂ => wpAny _ _ (execs (forBody 16) (lawEnv L a cd)) _ _ s₂) _ _
    rw [hbd]
    k_steps
    rename_i h5 F5 N5
    subst hbd
    have hokk := hok.iter k
    obtain ⟨zz, hT⟩ := turn_is hokk
    have nm5 : ∀ y, y ≠ Str.ofString "turn" → (fun y => if y = Str.ofString "turn" then some (Value.int (0 + (k : Int)) u) else m₁ y) y = m₁ y := fun y hy => if_neg hy
    have hu5 : ∀ p ∈ nw1, p ∈ (I, oI) :: nw1 := fun p hp => List.mem_cons_of_mem _ hp
    have A5 := A4.grow (m' := fun y => if y = Str.ofString "turn" then some (Value.int (0 + (k : Int)) u) else m₁ y) hu5 ⟨nm5 _ (by decide), nm5 _ (by decide), nm5 _ (by decide), nm5 _ (by decide)⟩
    have hnC : ∀ a ∈ xs.map (·.1) ++ xs.map (·.2), a ≠ I := fun a ha => by
      rcases List.mem_append.mp ha with ha | ha
      · obtain ⟨dx, its, n, hm⟩ := hR.notOff ha; exact Nat.ne_of_lt (hlt _ hm)
      · obtain ⟨hh, tk, kk, t, hm⟩ := hR.dict ha; exact Nat.ne_of_lt (hlt _ hm)
    have hIC : I ∉ xs.map (·.1) ++ xs.map (·.2) := fun e => hnC _ e rfl
    have hlrC : lr ∉ xs.map (·.1) ++ xs.map (·.2) := hR4.ne2 (fun p hp => N5 p (hu5 p hp)) hr4 (fun _ _ _ e => by cases e) (fun _ _ _ _ e => by have h := congrArg Obj.data e; cases h)
    show wpAny _ _ (execs ((forBody 16).drop 0) _) _ _ _
    refine law_t0 B F5 X N5 T X24 (R := R) (ks := ks) (wk := iterQ k ws) hokk A5 (lr := lr) hmr4 hmn4 (hu5 _ hr4) (hR4.sub hu5) hD hf4 hks4 ?_
    intro m6 nw6 h6 tk6 gs6 hG6 F6 N6 A6 nm6 K6 R6
    have hr6 := K6 _ (hu5 _ hr4) hlrC
    have hmr6 : m6 (Str.ofString "rows") = some (.ref lr) := by rw [nm6 _ (by decide) (by decide)]; exact hmr4
    refine law_t1 B F6 X N6 T X24 hok A6 hmr6 hr6 hT R6 ?_
    intro nw7 h7 tk7 gs7 hG7 F7 N7 A7 K7 R7
    have hr7 := K7 _ hr6 (fun e => hlrC (List.mem_append_left _ e))
    refine law_t3 B F7 X N7 T X24 hok A7 hmr6 hr7 hT R7 ?_
    intro l vl c m8 nw8 h8 tk8 gs8 hG8 F8 N8 K8 hml8 nm8 hl8 hp8
    have A8 := A7.grow (m' := m8) (fun p hp => K8.mem0 hp) ⟨nm8 _ (by decide), nm8 _ (by decide), nm8 _ (by decide), nm8 _ (by decide)⟩
    have hmt8 : m8 (Str.ofString "turn") = some (.int (k : Int) u) := by
      rw [nm8 _ (by decide), nm6 _ (by decide) (by decide)]
      show some (Value.int (0 + (k : Int)) u) = _
      rw [Int.zero_add]
    refine law_t5 B F8 X N8 T X24 hok hokk A8 hml8 hmt8 hl8 hp8 hT (fun e => by rw [e]; rfl) ?_
    intro m9 nw9 h9 tk9 gs9 t9 hG9 F9 N9 K9 hmn9 nm9
    have A9 := A8.grow (m' := m9) (fun p hp => K9.mem0 hp) ⟨nm9 _ (by decide), nm9 _ (by decide), nm9 _ (by decide), nm9 _ (by decide)⟩
    dsimp only [TPost]
    refine TEnd.intro F9 N9 (List.forall_mem_cons.mpr ⟨?n1, fun _ h => nomatch h⟩) (fun p hp hn => ?n2) ⟨A9, ?n3, ⟨t9, hmn9⟩, ?n4, _, _, R7.sub fun p hp => K9.mem0 (K8.mem0 hp), hT.fit3, by simp, fun _ => ⟨rfl, rfl⟩⟩ ?n5
    case n1 => exact K9.mem0 (K8.mem0 (K7 _ (K6 _ (List.mem_cons_self ..) hIC) (fun e => hIC (List.mem_append_left _ e))))
    case n2 => exact K9.mem0 (K8.mem0 (K7 _ (K6 _ (hu5 _ (K4 p hp hn)) hn) (fun e => hn (List.mem_append_left _ e))))
    case n3 => rw [nm9 _ (by decide), nm8 _ (by decide)]; exact hmr6
    case n4 => exact K9.mem0 (K8.mem0 hr7)
    case n5 => exact Bare.trans (by exact hG6) (Bare.trans (by exact hG7) (Bare.trans (by exact hG8) (by exact hG9)))
  · rintro m₁ nw1 h4 tk4 gs4 hG4 ⟨A4, hmr4, ⟨tn, hmn4⟩, hr4, R, ks, hR4, hf4, hks4, hlast⟩ K4 F4 N4
    obtain ⟨rfl, rfl⟩ := hlast (by omega)
    rw [iter_all hok] at hmn4
    subst hrest
    dsimp only
    exact next _ m₁ nw1 h4 _ _ tn (by exact hG4) F4 N4 A4 hmr4 hmn4 hr4 (hok.iter _) hR4
end
theorem rules_47_1 : True := by
  (k_with "callWith ref" => ((k_here; (first | (with_reducible show wpAny _ _ (callWith _ (Value.ref 103) [_] _ _) _ _ _) | (with_reducible show wpAny _ _ (callWith _ (Value.ref 74) [_] _ _) _ _ _) | fail "no acc method"); (first | (show wpAny _ _ (callWith _ (Value.ref 103) [_] (backTo _ (starEach [] _)) []) _ _ _) | (show wpAny _ _ (callWith _ (Value.ref 74) [_] (backTo _ (starEach [] _)) []) _ _ _) | fail "no acc method"); k_dflt (refine' callWith_K0 ?z0k1 ?z0k2 ?_; (case z0k1 => k_in); (case z0k2 => k_is); k_whole); dsimp only [List.nil_append, List.cons_append]; refine Hold.in ?_)))
  trivial
section
variable {w : World} {p : PySem.Program} {loose : List Str} {mean : ExcName → Option Value} {mg mb : Str → Option Value} {L a : Addr} {cd : Value} {h₀ : Heap} {m : Str → Option Value} {s : Shared} {Q : Flow → Shared → Prop} {nw : Led}
set_option maxHeartbeats 4000000 in
theorem law_s17 (B : Below callerA h₀ [] h₀) (F : Fr h₀ L s.heap m) (X : (hd.heap_39 w.params).In h₀) (N : News h₀ L s.heap nw) (T : Top p loose mean mg mb h₀) (X24 : h₀.get? 24 = some (set24 w.params))
   {h wd low sz : Nat} {ws wk : List Nat} {cs : List Pt} {lw lp lm lr : Addr} {nr : Nat} {xs : List (Addr × Addr)} {tn : Tok} (hok : LawOk h wd low sz ws cs) (hokw : LawOk h wd low sz wk cs) (A : LawA L h wd low sz ws cs lw lp lm m nw) (hmr : m (Str.ofString "rows") = some (.ref lr)) (hmn : m (Str.ofString "now") = some (.str (mkS (textC low ws (partCodes cs))) tn)) (hr : (lr, listOf (xs.map fun p => Value.ref p.1).toArray nr) ∈ nw) (hR : RowsIn nw xs (turnR low h wk) (List.replicate h 0))
   (fin : ∀ m' nw' h' tk gs, Bare s.gens gs → Fr h₀ L h' m' → News h₀ L h' nw' → (∃ ps, (76, tabO ps) ∈ nw') → (∃ ps, (83, tabO ps) ∈ nw') → Q (.ret (.bool true)) { s with heap := h', toks := tk, gens := gs }) :
   wpAny (model Challenge.rw_wo0004_01.row.prog w) (callerA.deeper (lawEnv L a cd)) (execs (lawBody.drop 17) (lawEnv L a cd)) Q (fun _ _ => False) s := by
  have hb : h ≤ 5 ∧ wd ≤ 4 := shapes_small hok.shape
  have hh2 : 2 ≤ h := by have := hok.shape; simp only [shapes, List.mem_cons, Prod.mk.injEq, List.not_mem_nil, or_false] at this; omega
  obtain ⟨zz, hT⟩ := turn_is hokw
  obtain ⟨hRh, hRs, hRo, hRl⟩ := rowsFit_all hT.fit3
  obtain ⟨tw, hmw⟩ := A.nWide
  obtain ⟨tt, hmt⟩ := A.nText
  obtain ⟨o4, hc4, hd4⟩ := A.cMarks
  obtain ⟨vm, n3, hlm, him⟩ := A.marks
  obtain ⟨ps1, ht1, htr1⟩ := A.tab1
  obtain ⟨ps2, ht2, htr2⟩ := A.tab2
  have hmlen : (marksL low h).length = h := by simp [marksL]
  have hmo := marks_ok hok
  have hxl : xs.length = h := by rw [hR.1, hRh]
  obtain ⟨x, dx, its, n, hh, tkz, tz, hx, hacc, hdx, hp⟩ := hR.get (i := 0) (by omega)
  obtain ⟨y, dy, ity, ny, hhy, tky, ty, hy, hyacc, hdy, hpy⟩ := hR.get (i := h - 1) (by omega)
  have gk : ∀ i, i < h → (List.replicate h (0 : Int)).getD i 0 = 0 := fun i hi => by rw [List.getD_eq_getElem?_getD, List.getElem?_replicate, if_pos hi]; rfl
  rw [gk 0 (by omega)] at hdx
  rw [gk (h - 1) (by omega)] at hdy
  have hI : ItemAt (xs.map fun p => Value.ref p.1).toArray 0 (.ref x) := ⟨by omega, by omega, by simp [hx]⟩
  have hLx : LastIs (xs.map fun p => Value.ref p.1).toArray (.ref y) := ⟨by simp; omega, by simp; omega, by simp only [List.size_toArray, List.length_map, hxl]; rw [List.getElem?_toArray, List.getElem?_map, hy]; rfl⟩
  obtain ⟨tl, htl⟩ := him.get (h - 1) (sgn (low + (h - 1))) (by rw [marksL, List.getElem?_map, List.getElem?_range (by omega)]; rfl)
  have hvm : vm.length = h := by rw [him.length, hmlen]
  have hLm : LastIs vm.toArray (.str (sgn (low + (h - 1))) tl) := ⟨by simp; omega, by simp; omega, by simp [hvm, htl]⟩
  have hr0m : (turnR low h wk).getD 0 [] ∈ turnR low h wk := by
    have h0 : 0 < (turnR low h wk).length := by omega
    rw [List.getD_eq_getElem?_getD, List.getElem?_eq_getElem h0]; exact List.getElem_mem _
  have hRow : ∀ q ∈ (turnR low h wk).getD 0 [], q.1.length ≤ 1000 ∧ q.2.length ≤ 1000 := fun q hq => hRl _ hr0m q hq
  have hz0 : (0 : Int) ≤ 0 := by decide
  have hz1 : (0 : Int) ≤ 1000 := by decide
  have hRln : ((turnR low h wk).getD 0 []).length ≤ 1000 := Nat.le_trans (len_get _ 0) (by omega)
  have hlenIs : lenF 0 ((turnR low h wk).getD 0 []) = 2 * (wd : Int) := hT.lenIs
  have hns := hT.noSpace
  obtain ⟨qy, tyq, uyq, hqy, hqym⟩ : ∃ q t u, ity.toList[((slideF (marksL low h) (rowsW low h wk)).2.getD (h - 1) []).length]? = some (Value.ref q) ∧ (q, pairO (sgn (low + (h - 1))) (sgn 90) t u) ∈ nw := by
    refine hpy.2 _ (sgn (low + (h - 1)), sgn 90) ?_
    have hl2 := (rowsFit_all hT.fit2).1
    rw [show (turnR low h wk).getD (h - 1) [] = (slideF (marksL low h) (rowsW low h wk)).2.getD (h - 1) [] ++ [(sgn (low + (h - 1)), sgn 90)] from getD_set_self (by omega), List.getElem?_append_right (Nat.le_refl _)]
    simp
  have hlast : ity.size = ((slideF (marksL low h) (rowsW low h wk)).2.getD (h - 1) []).length + 1 := by
    have h9 := hpy.1
    have hl2 := (rowsFit_all hT.fit2).1
    rw [Array.length_toList, show (turnR low h wk).getD (h - 1) [] = (slideF (marksL low h) (rowsW low h wk)).2.getD (h - 1) [] ++ [(sgn (low + (h - 1)), sgn 90)] from getD_set_self (by omega), List.length_append, List.length_singleton] at h9
    exact h9
  obtain ⟨iy, rfl⟩ : ∃ iy : Array Value, ity = iy.push (.ref qy) := by
    refine ⟨ity.pop, ?_⟩
    apply Array.ext_getElem?
    intro i
    rw [Array.getElem?_push]
    have hq2 : ity[ity.size - 1]? = some (.ref qy) := by rw [← hqy, hlast, Nat.add_sub_cancel]; simp
    by_cases e : i = ity.pop.size
    · rw [if_pos e, e, Array.size_pop, hq2]
    · rw [if_neg e, Array.getElem?_pop]
      by_cases e2 : i < ity.size - 1
      · rw [if_pos e2]
      · rw [if_neg e2]
        rw [Array.size_pop] at e
        exact Array.getElem?_eq_none (by omega)
  have hys : iy.size < 1000 := by
    have := len_get (slideF (marksL low h) (rowsW low h wk)).2 (h - 1)
    have h2 := (rowsFit_all hT.fit2).2.1
    rw [Array.size_push] at hlast
    omega
  have N0 : News h₀ L s.heap nw := N
  have nx76 : x ≠ 76 := led_ne N0 hacc ht1 (by intro e; cases e)
  have nx83 : x ≠ 83 := led_ne N0 hacc ht2 (by intro e; cases e)
  have nd76 : dx ≠ 76 := led_ne N0 hdx ht1 (by intro e; cases e)
  have nd83 : dx ≠ 83 := led_ne N0 hdx ht2 (by intro e; cases e)
  have ny76 : y ≠ 76 := led_ne N0 hyacc ht1 (by intro e; cases e)
  have ny83 : y ≠ 83 := led_ne N0 hyacc ht2 (by intro e; cases e)
  have ndy76 : dy ≠ 76 := led_ne N0 hdy ht1 (by intro e; cases e)
  have ndy83 : dy ≠ 83 := led_ne N0 hdy ht2 (by intro e; cases e)
  have nr76 : lr ≠ 76 := led_ne N0 hr ht1 (by intro e; cases e)
  have nr83 : lr ≠ 83 := led_ne N0 hr ht2 (by intro e; cases e)
  have nm76 : lm ≠ 76 := led_ne N0 hlm ht1 (by intro e; cases e)
  have nm83 : lm ≠ 83 := led_ne N0 hlm ht2 (by intro e; cases e)
  have nq76 : qy ≠ 76 := led_ne N0 hqym ht1 (by intro e; cases e)
  have nq83 : qy ≠ 83 := led_ne N0 hqym ht2 (by intro e; cases e)
  have nqy : qy ≠ y := led_ne N0 hqym hyacc (by intro e; cases e)
  have nc76 : L + 1 + 1 + 1 + 1 ≠ 76 := led_ned N0 hc4 ht1 (by rw [hd4]; intro e; cases e)
  have nc83 : L + 1 + 1 + 1 + 1 ≠ 83 := led_ned N0 hc4 ht2 (by rw [hd4]; intro e; cases e)
  have nyc : L + 1 + 1 + 1 + 1 ≠ y := led_ned N0 hc4 hyacc (by rw [hd4]; intro e; cases e)
  have nym : lm ≠ y := led_ne N0 hlm hyacc (by intro e; cases e)
  have hpk : ∀ nw', Keep [76, 83] nw nw' → PairsIn nw' its.toList ((turnR low h wk).getD 0 []) := fun nw' hk => hp.offC N0 (fun a ha => by
    rcases List.mem_cons.mp ha with rfl | ha
    · exact ⟨_, ht1, NotRow.tab _⟩
    · rw [List.mem_singleton.mp ha]; exact ⟨_, ht2, NotRow.tab _⟩) hk
  clear N0
  obtain ⟨rest, hrest⟩ : ∃ r, r = lawBody.drop 19 := ⟨_, rfl⟩
  obtain ⟨sc, hsc⟩ : ∃ sc, sc = lawScope := ⟨_, rfl⟩
  obtain ⟨st17, hst17⟩ : ∃ x, x = lawAt 17 := ⟨_, rfl⟩
  obtain ⟨st18, hst18⟩ : ∃ x, x = lawAt 18 := ⟨_, rfl⟩
  rw [show lawBody.drop 17 = st17 :: st18 :: rest from by rw [hrest, hst17, hst18]; exact rfl]
  unfold lawEnv
  rw [← hsc]
  conv at hst17 => rhs; whnf
  conv at hst18 => rhs; whnf
  conv at hsc => rhs; whnf
  subst hst17 hst18 hsc
  k_steps
  unfold Hold
  k_dflt (refine' len_use (x := x) ?hx ?hdx ?ht htr1 hp hRow hRln hz0 hz1 ?sB ?sF ?sX ?sN ?sT ?s24 ?sK ?sD ?sU ?_; (case hx => k_mem); (case hdx => k_mem); (case ht => k_mem); k_extra "x_inv"; k_whole)
  intro t4 h4 tk4 gs4 ps4 hG4 htr4 F4 N4
  have k4 : Keep [76, 83] nw (updL 76 (tabO ps4) nw) := fun p hp hn => mem_updL_ne hp (fun e => hn (by simp [e]))
  have t764 : (76, tabO ps4) ∈ updL 76 (tabO ps4) nw := mem_updL_self ht1
  have t834 : (83, tabO ps2) ∈ updL 76 (tabO ps4) nw := mem_updL_ne ht2 (by decide)
  generalize updL 76 (tabO ps4) nw = nw4 at *
  have hx4 := k4 _ hacc (by simp [nx76, nx83])
  have hdx4 := k4 _ hdx (by simp [nd76, nd83])
  have hr4 := k4 _ hr (by simp [nr76, nr83])
  have hp4 := hpk _ k4
  k_steps
  · rename_i a9
    exact absurd hlenIs a9
  rename_i a9
  unfold Hold
  k_dflt (refine' Spec.use (ws_spec hx4 hdx4 t764 t834 htr4 htr2 hp4 hRow hRln hz0 hz1) ?sB ?sF ?sX ?sN ?sT ?s24 ?sK ?sD ?sU ?_; k_extra "x_inv"; k_whole)
  rintro v6 nw6 h6 tk6 gs6 hG6 F6 N6 ⟨e6, K6, ps16, ps26, htr16, htr26, ht16, ht26⟩
  have hwd2 : 2 ≤ wd := by have := hok.shape; simp only [shapes, List.mem_cons, Prod.mk.injEq, List.not_mem_nil, or_false] at this; omega
  have hws : (decide ((0 : Int) = 0) && (decide (lenF 0 ((turnR low h wk).getD 0 []) = 0) || Txt.isspace (strF ((turnR low h wk).getD 0 [])))) = false := by
    rw [hlenIs, hns, decide_eq_false (show ¬ 2 * (wd : Int) = 0 by omega)]
    rfl
  rw [hws] at e6
  subst e6
  have k6 : Keep [76, 83] nw nw6 := fun p hp hn => K6 _ (k4 p hp hn) hn
  have hr6 := k6 _ hr (by simp [nr76, nr83])
  have hy6 := k6 _ hyacc (by simp [ny76, ny83])
  have hdy6 := k6 _ hdy (by simp [ndy76, ndy83])
  have hlm6 := k6 _ hlm (by simp [nm76, nm83])
  have hc46 := k6 _ hc4 (by simp [nc76, nc83])
  have hq6 := k6 _ hqym (by simp [nq76, nq83])
  k_steps
  unfold Hold
  k_dflt (refine' Spec.use (pop_spec hy6 hdy6 rfl hys) ?sB ?sF ?sX ?sN ?sT ?s24 ?sK ?sD ?sU ?_; k_extra "x_inv"; k_whole)
  rintro v7 nw7 h7 tk7 gs7 hG7 F7 N7 ⟨e7, hnw7⟩
  subst e7
  have K7 : Keep [y] nw6 nw7 := fun p hp hn => by rw [hnw7]; exact mem_updL_ne hp (by simpa using hn)
  have hlm7 := K7.mem1 hlm6 nym
  have hc47 := K7.mem1 hc46 nyc
  have hq7 := K7.mem1 hq6 nqy
  have hZ : sgn 90 = Str.ofString "Z" := by decide +kernel
  have ho1 : PyData.strOk (sgn (low + (h - 1))) = true := hmo _ (List.mem_map.mpr ⟨h - 1, List.mem_range.mpr (by omega), rfl⟩)
  have ho2 : PyData.strOk (sgn 90) = true := by decide +kernel
  have ht17 : ∃ ps, (76, tabO ps) ∈ nw7 := ⟨_, K7.mem1 ht16 ny76.symm⟩
  have ht27 : ∃ ps, (83, tabO ps) ∈ nw7 := ⟨_, K7.mem1 ht26 ny83.symm⟩
  clear hnw7
  k_steps
  rename_i D8 h8 F8 N8 l8
  dsimp only
  rw [beq_self_eq_true]
  obtain ⟨qs1, hs1⟩ := ht17
  obtain ⟨qs2, hs2⟩ := ht27
  refine fin m _ h8 _ _ ?hb F8 N8 ⟨qs1, List.mem_cons_of_mem _ hs1⟩ ⟨qs2, List.mem_cons_of_mem _ hs2⟩
  case hb => exact Bare.trans (by exact hG4) (Bare.trans (by exact hG6) (by exact hG7))
end
/-! the law's whole body -/
def LawFin (h₀ : Heap) (L : Addr) (s : Shared) (f : Flow) (s' : Shared) : Prop :=
  f = .ret (.bool true) ∧ ∃ m nw h tk gs, s' = { s with heap := h, toks := tk, gens := gs } ∧ Bare s.gens gs ∧ Fr h₀ L h m ∧ News h₀ L h nw ∧ (∃ ps, (76, tabO ps) ∈ nw) ∧ (∃ ps, (83, tabO ps) ∈ nw)
section
variable {w : World} {p : PySem.Program} {loose : List Str} {mean : ExcName → Option Value} {mg mb : Str → Option Value} {L a : Addr} {cd : Value} {h₀ : Heap} {m : Str → Option Value} {s : Shared} {nw : Led}
set_option maxHeartbeats 4000000 in
theorem law_all (B : Below callerA h₀ [] h₀) (F : Fr h₀ L s.heap m) (X : (hd.heap_39 w.params).In h₀) (N : News h₀ L s.heap nw) (T : Top p loose mean mg mb h₀) (X24 : h₀.get? 24 = some (set24 w.params))
   {l : Addr} {vs : List Value} {ns : List Int} {o1 o2 o3 o4 o5 : Obj} {v5 : Option Value} (hi : IntsAre vs ns) (hl : h₀.IsList l vs.toArray) (hm : m (Str.ofString "script") = some (.ref l))
   (hc1 : (L + 1, o1) ∈ nw) (hd1 : o1.data = .cell none) (hc2 : (L + 1 + 1, o2) ∈ nw) (hd2 : o2.data = .cell none) (hc3 : (L + 1 + 1 + 1, o3) ∈ nw) (hd3 : o3.data = .cell none) (hc4 : (L + 1 + 1 + 1 + 1, o4) ∈ nw) (hd4 : o4.data = .cell none) (hc5 : (L + 1 + 1 + 1 + 1 + 1, o5) ∈ nw) (hd5 : o5.data = .cell v5)
   (ht1 : (76, tabO #[]) ∈ nw) (ht2 : (83, tabO #[]) ∈ nw) :
   wpAny (model Challenge.rw_wo0004_01.row.prog w) (callerA.deeper (lawEnv L a cd)) (execs lawBody (lawEnv L a cd)) (LawFin h₀ L s) (fun _ _ => False) s := by
  show wpAny _ _ (execs (lawBody.drop 0) _) _ _ _
  have n76 : (76 : Addr) ≠ L + 1 ∧ (76 : Addr) ≠ L + 1 + 1 ∧ (76 : Addr) ≠ L + 1 + 1 + 1 ∧ (76 : Addr) ≠ L + 1 + 1 + 1 + 1 := ⟨led_ned N ht1 hc1 (by rw [hd1]; intro e; cases e), led_ned N ht1 hc2 (by rw [hd2]; intro e; cases e), led_ned N ht1 hc3 (by rw [hd3]; intro e; cases e), led_ned N ht1 hc4 (by rw [hd4]; intro e; cases e)⟩
  have n83 : (83 : Addr) ≠ L + 1 ∧ (83 : Addr) ≠ L + 1 + 1 ∧ (83 : Addr) ≠ L + 1 + 1 + 1 ∧ (83 : Addr) ≠ L + 1 + 1 + 1 + 1 := ⟨led_ned N ht2 hc1 (by rw [hd1]; intro e; cases e), led_ned N ht2 hc2 (by rw [hd2]; intro e; cases e), led_ned N ht2 hc3 (by rw [hd3]; intro e; cases e), led_ned N ht2 hc4 (by rw [hd4]; intro e; cases e)⟩
  refine law_s0 B F X N T X24 hi hl hm hc1 hd1 ?_
  intro lc vs3 ns3 nc h wd t u o1' m1 nw1 h1 tk1 gs1 hs hG1 F1 N1 K1 hc1' hd1' hmw hmc hlc hi3 h3
  have k1 : ∀ (b : Addr) (o : Obj), (b, o) ∈ nw → b ≠ L + 1 → (b, o) ∈ nw1 := fun b o hb hn => K1 _ hb (by simpa using hn)
  refine law_s2 B F1 X N1 T X24 hs hc1' hd1' (k1 _ _ hc2 (by simp only [Addr]; omega)) hd2 (k1 _ _ hc3 (by simp only [Addr]; omega)) hd3 hmw hmc hlc hi3 h3 ?_
  intro low sz ws cs lw lp vw vp n1 n2 o2' o3' t2 t3 m2 nw2 h2 tk2 gs2 hok hG2 F2 N2 K2 hc2' hd2' hc3' hd3' hmw2 hms2 hmp2 hlw hiw hlp hip
  have k2 : ∀ (b : Addr) (o : Obj), (b, o) ∈ nw1 → b ≠ L + 1 + 1 → b ≠ L + 1 + 1 + 1 → (b, o) ∈ nw2 := fun b o hb h1 h2 => K2 _ hb (by simp [h1, h2])
  have hc12 := k2 _ _ hc1' (by simp only [Addr]; omega) (by simp only [Addr]; omega)
  have hc42 := k2 _ _ (k1 _ _ hc4 (by simp only [Addr]; omega)) (by simp only [Addr]; omega) (by simp only [Addr]; omega)
  have hc52 := k2 _ _ (k1 _ _ hc5 (by simp only [Addr]; omega)) (by simp only [Addr]; omega) (by simp only [Addr]; omega)
  have ht12 := k2 _ _ (k1 _ _ ht1 n76.1) n76.2.1 n76.2.2.1
  have ht22 := k2 _ _ (k1 _ _ ht2 n83.1) n83.2.1 n83.2.2.1
  refine law_s6 B F2 X N2 T X24 hok hc12 hd1' hc2' hd2' hc3' hd3' hc42 hd4 hmp2 hlw hiw hlp hip ?_
  intro lm lr vm c5 c6 o4' t5 m3 nw3 h3' tk3 gs3 hG3 F3 N3 K3 hc4' hd4' hlm hvm hlr hlt hlt2 hmr hmt hnm
  have k3 : ∀ (b : Addr) (o : Obj), (b, o) ∈ nw2 → b ≠ L + 1 + 1 + 1 + 1 → (b, o) ∈ nw3 := fun b o hb h1 => K3 _ hb (by simp [h1])
  have nlw : lw ≠ L + 1 + 1 + 1 + 1 := led_ned N2 hlw hc42 (by rw [hd4]; intro e; cases e)
  have nlp : lp ≠ L + 1 + 1 + 1 + 1 := led_ned N2 hlp hc42 (by rw [hd4]; intro e; cases e)
  have A3 : LawA L h wd low sz ws cs lw lp lm m3 nw3 :=
    { cHigh := ⟨o1', t, k3 _ _ hc12 (by simp only [Addr]; omega), hd1'⟩
      cLow := ⟨o2', t2, k3 _ _ hc2' (by simp only [Addr]; omega), hd2'⟩
      cWord := ⟨o3', k3 _ _ hc3' (by simp only [Addr]; omega), hd3'⟩
      cMarks := ⟨o4', hc4', hd4'⟩
      cAt := ⟨o5, v5, k3 _ _ hc52 (by simp only [Addr]; omega), hd5⟩
      nWide := ⟨u, by rw [hnm _ (by decide) (by decide)]; exact hmw2⟩
      nSize := ⟨t3, by rw [hnm _ (by decide) (by decide)]; exact hms2⟩
      nParts := by rw [hnm _ (by decide) (by decide)]; exact hmp2
      nText := ⟨t5, hmt⟩
      word := ⟨vw, n1, k3 _ _ hlw nlw, hiw⟩
      parts := ⟨vp, n2, k3 _ _ hlp nlp, hip⟩
      marks := ⟨vm, c5, hlm, hvm⟩
      tab1 := ⟨_, k3 _ _ ht12 n76.2.2.2, trivial⟩
      tab2 := ⟨_, k3 _ _ ht22 n83.2.2.2, trivial⟩ }
  refine law_s10 B F3 X N3 T X24 hok A3 hmr hlr ⟨Nat.ne_of_lt (hlt2 _ hlw), Nat.ne_of_lt (hlt2 _ hlp), Nat.ne_of_lt hlt⟩ ?_
  intro xs nr m4 nw4 h4 tk4 gs4 hG4 F4 N4 A4 hmr4 hr4 hR4 hD
  refine law_s11 B F4 X N4 T X24 hok A4 hmr4 hr4 hR4 ?_
  intro m5 nw5 h5 tk5 gs5 hG5 F5 N5 A5 hmr5 hr5 hR5
  refine law_s14 B F5 X N5 T X24 hok A5 hmr5 hr5 hR5 ?_
  intro m6 nw6 h6 tk6 gs6 hG6 F6 N6 A6 hmr6 hr6 hR6
  refine law_s15 B F6 X N6 T X24 hok A6 hmr6 hr6 hR6 hD ?_
  intro wk m7 nw7 h7 tk7 gs7 t7 hG7 F7 N7 A7 hmr7 hmn7 hr7 hokw hR7
  refine law_s17 B F7 X N7 T X24 hok hokw A7 hmr7 hmn7 hr7 hR7 ?_
  intro m8 nw8 h8 tk8 gs8 hG8 F8 N8 t76 t83
  exact ⟨rfl, m8, nw8, h8, tk8, gs8, rfl, Bare.trans hG1 (Bare.trans hG2 (Bare.trans hG3 (Bare.trans hG4 (Bare.trans hG5 (Bare.trans hG6 (Bare.trans hG7 hG8)))))), F8, N8, t76, t83⟩
end
/-! the claim -/
set_option maxHeartbeats 0
theorem fin_post {M : Model} {A : Around} {cd : Code} {s s₁ : Shared} {cw : ClaimW} {cl : Str → Option Addr} {mean : ExcName → Option Value} {args : List WData} {tabs : List (Addr × Addr)} (hT : TabsAt tabs s₁.heap)
    (hp : ∀ h : Heap, (∀ cls, cw.raises args cls = false) ∧ cw.post args (.bool true) args = true) 
    (h : codeAny M A cd (fun r s' => r = .ok (.ret (.bool true)) ∧ (∀ b o, (ghostOf s₁.heap tabs).get? b = some o → s'.heap.get? b = some o) ∧ s'.os = s₁.os ∧ AllBare s'.gens ∧ GrownAll tabs s'.heap) s) : codeAny M A cd (GoodWG cw cl mean args s₁) s :=
  codeAny_mono h fun r s' ⟨hr, hk, hos, hg, hgr⟩ => by
    have keep : ∀ b o, b ∉ tabs.map (·.2) → s₁.heap.get? b = some o → s'.heap.get? b = some o := fun b o hb e => hk b o (ghost_ne e hb)
    have grown : ∀ b o, b ∈ tabs.map (·.2) → s₁.heap.get? b = some o → isCodeTable s₁.heap b ∧ o = tabObj #[] ∧ ∃ ps, s'.heap.get? b = some (tabObj ps) := fun b o hb e => by
      obtain ⟨q, hq, rfl⟩ := List.mem_map.mp hb
      have e2 := (hT q hq).2
      rw [e] at e2
      exact ⟨((hT q hq).1.tab (hT q hq).2).isCodeTable, Option.some.inj e2, hgr.get q hq⟩
    refine ⟨.inl ⟨.bool true, .bool true, [], hr, (hp s'.heap).1, .bool _, (hp s'.heap).2, fun _ => ⟨List.nodup_nil, fun a ha => nomatch ha⟩⟩, ⟨fun b o e => ?_, fun b o e => ?_⟩, hos, hg⟩
    · by_cases hb : b ∈ tabs.map (·.2)
      · obtain ⟨ht, rfl, ps, hP⟩ := grown b o hb e
        exact .inr (.inl ⟨ht, rfl, #[], ps, rfl, by rw [Array.empty_append]; exact hP⟩)
      · exact .inl (keep b o hb e)
    · by_cases hb : b ∈ tabs.map (·.2)
      · obtain ⟨_, _, ps, hP⟩ := grown b o hb e
        exact ⟨_, hP⟩
      · exact ⟨o, keep b o hb e⟩
theorem more_none : ∀ P, (hd.heap_39 P).lookup 24 = none ∧ (hd.heap_39 P).lookup 76 = none ∧ (hd.heap_39 P).lookup 83 = none := fun P => ⟨by kernel_rfl, by kernel_rfl, by kernel_rfl⟩
theorem more_look {P : Params} {a : Addr} {o : Obj} (e : (hd.heap_39 P).lookup a = some o) : (more hd.heap_39 P).lookup a = some o := by
  obtain ⟨h1, h2, h3⟩ := more_none P
  unfold more
  rw [List.lookup_cons, List.lookup_cons, List.lookup_cons]
  have n1 : (a == (24 : Addr)) = false := by
    by_cases q : a = 24
    · subst q; rw [h1] at e; cases e
    · simpa using q
  have n2 : (a == (76 : Addr)) = false := by
    by_cases q : a = 76
    · subst q; rw [h2] at e; cases e
    · simpa using q
  have n3 : (a == (83 : Addr)) = false := by
    by_cases q : a = 83
    · subst q; rw [h3] at e; cases e
    · simpa using q
  rw [n1, n2, n3]
  exact e
theorem tt : PySem.Challenge.rw_wo0004_01.Holds := by
  refine hd ?_
  k_fill
  intro w s₀ s₁ mg mb G Y fa o pm cd doc dV kV ho hd hcd hD hmg hg args vals as hpre hlay hrd hwl hlo
  have KX := kIn_of Y
  have X := (Ground.X G).1
  have V := (Ground.X G).2
  refine Ground.open G ?_
  intro T B D TE TW
  try (refine guard_noD D (by decide +kernel) ?_; clear D)
  clear hmg
  have hTab : TabsAt [(80, 76), (87, 83)] s₁.heap := List.forall_mem_cons.mpr ⟨⟨codeHd_of_K (c := 80) (P := 76) KX (by kernel_rfl), KX _ _ rfl⟩, List.forall_mem_cons.mpr ⟨⟨codeHd_of_K (c := 87) (P := 83) KX (by kernel_rfl), KX _ _ rfl⟩, fun _ h => nomatch h⟩⟩
  have X24 : s₁.heap.get? 24 = some (set24 w.params) := KX _ _ rfl
  wrow_args hpre hlay hrd hwl hlo
  first | refine callC_kw (enter_call ?_) | refine enter_call ?_
  w_top on
  refine fin_post hTab (fun _ => ⟨fun _ => rfl, ?_⟩) ?_
  · generalize List.map PyData.int _ = zz
    show (WShape.has [] (.bool true) .bool && WTm.holds [] (.eq .res (.lit (.bool true))) ⟨[ofPy (.list zz)], some (.bool true), [ofPy (.list zz)], []⟩) = true
    rw [Bool.and_eq_true]
    exact ⟨by simp [WShape.has, WShape.arms], by simp [WTm.holds, WTm.value, PySem.W.same]⟩
  have KX2 : (Mine.hd.heap_39 w.params).In s₁.heap := fun a o e => KX a o (more_look e)
  w_call any ho hd hcd hD T F
  clear hd
  rename News _ _ _ _ => N0
  have l0 := ghost_lt hTab F
  have X1 := ghost_K hTab KX2 (by kernel_rfl)
  have T1 := ghost_top hTab T
  have B1 := ghost_below hTab
  have N1 := ghost_news hTab F N0
  have F1 := ghost_fr hTab F
  have Xs24 : (ghostOf s₁.heap [(80, 76), (87, 83)]).get? 24 = some (set24 w.params) := ghost_get hTab X24 (by intro q; cases q)
  k_drop
  rename_i h1 tk1 b5 b4 b3 b2 b1 e5 e4 e3 e2 e1 X0
  rename IntsAre _ _ => hI
  rename Heap.IsList _ _ _ => hL
  refine' wpAny_mono (law_all B1 F1 X1 N1 T1 Xs24 hI ?zl ?zm ?c1 ?d1 ?c2 ?d2 ?c3 ?d3 ?c4 ?d4 ?c5 ?d5 ?t1 ?t2) ?zQ ?zE
  case zl =>
    obtain ⟨oL, hoL, hcL, nL, hdL⟩ := hL
    exact ⟨oL, ghost_get hTab hoL (by intro q; rw [q] at hcL; cases hcL), hcL, nL, hdL⟩
  case zm => exact rfl
  case c1 => exact List.mem_append_left _ (List.mem_cons_of_mem _ (List.mem_cons_of_mem _ (List.mem_cons_of_mem _ (List.mem_cons_of_mem _ (List.mem_cons_self ..)))))
  case c2 => exact List.mem_append_left _ (List.mem_cons_of_mem _ (List.mem_cons_of_mem _ (List.mem_cons_of_mem _ (List.mem_cons_self ..))))
  case c3 => exact List.mem_append_left _ (List.mem_cons_of_mem _ (List.mem_cons_of_mem _ (List.mem_cons_self ..)))
  case c4 => exact List.mem_append_left _ (List.mem_cons_of_mem _ (List.mem_cons_self ..))
  case c5 => exact List.mem_append_left _ (List.mem_cons_self ..)
  case d1 => exact e1
  case d2 => exact e2
  case d3 => exact e3
  case d4 => exact e4
  case d5 => exact e5
  case t1 => exact List.mem_append_right _ (List.mem_cons_self ..)
  case t2 => exact List.mem_append_right _ (List.mem_cons_of_mem _ (List.mem_cons_self ..))
  case zE => exact fun _ _ h => h.elim
  case zQ =>
    rintro f s' ⟨rfl, m9, nw9, h9, tk9, gs9, rfl, hb9, F9, N9, ⟨p1, hp1⟩, p2, hp2⟩
    refine ⟨rfl, F9.keep, rfl, hb9 ?_, ⟨p1, (N9 _ hp1).1⟩, ⟨p2, (N9 _ hp2).1⟩, trivial⟩
    show AllBare s₁.gens
    rw [hg]
    simp [AllBare]
end Mine
set_option maxRecDepth 100000 in
theorem PySem.Challenge.cw_wo0004_01_holds : PySem.Challenge.rw_wo0004_01.Holds := by
  exact Mine.tt
