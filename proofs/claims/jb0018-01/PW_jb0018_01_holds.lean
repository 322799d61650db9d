import PyProof.Rows.All
import Wide.All
import OpenK.AllK
import Wide.FinOn
import PySem.Challenge.RW_jb0018_01
open PySem PySem.W PyProof.Rows PySem.Calls
set_option Elab.async false
set_option maxRecDepth 100000
namespace Mine
/-! ### M -/
abbrev Led := List (Addr × Obj)
abbrev SMap := Str → Option Value

/-- what a called def asks of its caller, and what it hands back -/
def Con (nd nu : Nat) (prog : Program) (w : World) (K : Frag) (p : Program) (lo : List Str) (mean : ExcName → Option Value) (mg mb : SMap) (f : Value) (vs : List Value) (news : Led) (Ret : Value → Led → Prop) : Prop :=
  ∀ (dp un : Nat) (gd : Option (List Code)) (cn : Str) (cs : Scope) (a : Addr) (ccd : Value) (cl : List (Str × Addr)) (outer : List Env) (A₀ : Around) (base h₀ : Heap) (L : Addr) (m : SMap) (s : Shared) (Q E : Value → Shared → Prop),
    Below A₀ base outer h₀ → Fr h₀ L s.heap m → K.In h₀ → News h₀ L s.heap news → Top p lo mean mg mb h₀ → cs.kind = .function → dp + nd < recursionLimit → un + nu < cLine →
    (∀ r tl h' tk', Fr h₀ L h' m → News h₀ L h' (tl ++ news) → Ret r tl → Q r { s with heap := h', toks := tk' }) →
    wpAny (model prog w) (ktrTop dp un gd cn cs L a ccd cl outer) (call f vs) Q E s

theorem Con.use {nd nu : Nat} {prog : Program} {w : World} {K : Frag} {p : Program} {lo : List Str} {mean : ExcName → Option Value} {mg mb : SMap} {f : Value} {vs : List Value} {news : Led} {Ret : Value → Led → Prop}
    {dp un : Nat} {gd : Option (List Code)} {cn : Str} {cs : Scope} {a : Addr} {ccd : Value} {cl : List (Str × Addr)} {outer : List Env} {A₀ : Around} {base h₀ : Heap} {L : Addr} {m : SMap} {s : Shared} {Q E : Value → Shared → Prop}
    (F : Fr h₀ L s.heap m) (X : K.In h₀) (N : News h₀ L s.heap news) (B : Below A₀ base outer h₀) (T : Top p lo mean mg mb h₀) (hk : cs.kind = .function) (hd : dp + nd < recursionLimit) (hu : un + nu < cLine)
    (c : Con nd nu prog w K p lo mean mg mb f vs news Ret)
    (ret : ∀ r tl h' tk', Fr h₀ L h' m → News h₀ L h' (tl ++ news) → Ret r tl → Q r { s with heap := h', toks := tk' }) :
    wpAny (model prog w) (ktrTop dp un gd cn cs L a ccd cl outer) (call f vs) Q E s := c _ _ _ _ _ _ _ _ _ _ _ _ _ _ _ _ _ B F X N T hk hd hu ret

section
variable {prog : Program} {w : World} {A : Around} {E : Value → Shared → Prop} {Q : Value → Shared → Prop} {s : Shared} {K : Frag} {h₀ : Heap} {L : Addr} {m : Str → Option Value} {G C : Addr} {o : Obj}
theorem type_ref (F : Fr h₀ L s.heap m) (X₀ : K.In h₀) (hG : K.lookup G = some o) (hc : o.cls = .ref C) (hq : Q (.ref C) s) : wpAny (model prog w) A (call (.type "type") [.ref G]) Q E s := by
  have ho := (X₀.keeps F.keep) _ _ hG
  obtain ⟨hh, g, d, t, os⟩ := s
  exact call_type_obj ho (by rw [hc]; rfl) (by rw [hc]; exact hq)

theorem issub_tup (F : Fr h₀ L s.heap m) (X₀ : K.In h₀) (h2 : subIn K (.ref C) (.type "tuple") = some true) (h3 : isClsIn K C = true) (hq : Q (.bool true) s) :
    wpAny (model prog w) A (call (.builtin "issubclass") [.ref C, .type "tuple"]) Q E s := by
  have X := X₀.keeps F.keep
  refine call_issubclass (S := fun _ R s => K.In s.heap ∧ R (.ok (.ret (.bool true))) s) ?_ ⟨X, hq⟩
  intro prog w A R s hs
  obtain ⟨X, hs⟩ := hs
  refine issubclass_outer ?_
  obtain ⟨hh, g, d, t, os⟩ := s
  have L1 : Looks (model prog w) hh (typeOf (.type "tuple")) (.type "type") := Looks.of_pure meta_tuple
  have L2 : Looks (model prog w) hh (isSubtype (.ref C) (.type "tuple")) true := looks_subIn X h2
  obtain ⟨cd, hcd⟩ := Option.isSome_iff_exists.mp h3
  have L3 : Looks (model prog w) hh (isType (.ref C)) true := by
    unfold clsIn at hcd
    split at hcd
    · rename_i ho
      exact (Looks.ld (part := none) (X _ _ ho)).andThen .now
    · cases hcd
  unfold Builtin.«issubclass.nested»
  repeat lk
  exact hs

theorem tup_item_sub {d : Option Addr} {items : Array Value} {n : Nat} {sl : Array (Option Value)} {i : Int} {u : Tok} {k : Nat} {y : Value} (F : Fr h₀ L s.heap m) (X₀ : K.In h₀) (hG : K.lookup G = some ⟨.ref C, d, .seq items n, sl⟩)
    (h2 : subIn K (.ref C) (.type "tuple") = some true) (hlo : -2 ^ 63 ≤ i) (hhi : i < 2 ^ 63) (hk : seqIndex? i items.size = some k) (hy : items[k]? = some y) (hq : Q y s) :
    wpAny (model prog w) A (call (.builtin "tuple.__getitem__") [.ref G, .int i u]) Q E s := by
  have X := X₀.keeps F.keep
  have ho := X _ _ hG
  obtain ⟨hh, g, d, t, os⟩ := s
  have L2 : Looks (model prog w) hh (isSubtype (.ref C) (.type "tuple")) true := looks_subIn X h2
  have L3 : Looks (model prog w) hh (typeOf (.ref G)) (.ref C) := (Looks.ld ho).andThen .now
  refine wpAny_call (codeAny_call_builtin slot_tuple_getitem.plain entry_tuple_getitem ?_)
  refine @check_slot (model prog w) _ _ _ "tuple.__getitem__" "tuple" "__getitem__" (.ref G) [.int i u] [] _ (by decide +kernel) (by decide +kernel) (L3.andThen L2) (args_tuple_getitem _ _) ?_
  show wpAny _ _ (Builtin.Tuple.tupleItemsOf (.ref G) >>= _) _ _ _
  unfold Builtin.Tuple.tupleItemsOf
  refine wpAny_bind (wpAny_bind (wpAny_seqItems ho rfl (wpAny_pure ?_)))
  refine wpAny_bind (wpAny_typeOf (typeIs_int _ i u) ?_)
  rw [if_neg (by decide)]
  refine wpAny_bind (wpAny_specialOf (T := "int") (typeIs_int _ i u) int_index ?_)
  rw [if_neg (by simp)]
  refine wpAny_bind (wpAny_of_eq (a := i) rfl ?_)
  rw [if_neg (by simp only [Bool.or_eq_true, decide_eq_true_eq]; omega)]
  simp only [hk, hy, Option.bind_some]
  exact wpAny_pure hq
end

section
variable {prog : Program} {w : World} {A : Around} {E : Value → Shared → Prop} {Q : Value → Shared → Prop} {s : Shared} {K : Frag} {x C : Addr} {ox : Obj} {od : Option Obj} {name : Str} {expr : Bool}
theorem gt_bind {g a : Value} (X : K.In s.heap) (I : InstAt s.heap x ox C od) (hga : findIn K (.ref C) "__getattribute__" = some (some (.builtin "tuple.__getattribute__"))) (hsub : subIn K (.ref C) (.type "tuple") = some true)
    (hf : findObj K C od name = some (.bind g a)) (hk : findIn K (.ref C) "__getattr__" = some none)
    (h : ∀ E', wpAny (model prog w) A.in1 (call g [a, .ref x, .ref C]) (fun v s' => wpAny (model prog w) A (handedOut v) Q E s') E' { s with toks := s.toks + 1 }) :
    wpAny (model prog w) A (getAttr (.ref x) name expr) Q E s := by
  obtain ⟨hh, gg, d, t, os⟩ := s
  have L0 := I.type (M := model prog w)
  have L1 := looks_findIn (M := model prog w) X hga
  have L2 : Looks (model prog w) hh (hookBefore (.ref C)) none := looks_findIn (M := model prog w) X hk
  have L3 := looks_find (M := model prog w) X I hf
  have L4 : Looks (model prog w) hh (isSubtype (.ref C) (.type "tuple")) true := looks_subIn X hsub
  unfold getAttr getAttrBy
  refine wpAny_bind (wpAny_mkText (wpAny_holding (wpAny_bind (L0.at (wpAny_bind (L1.at ?_))))))
  dsimp only
  rw [show (onTheHeap (.ref C) && Value.builtin "tuple.__getattribute__" == Value.builtin "object.__getattribute__") = false from by rw [show (Value.builtin "tuple.__getattribute__" == Value.builtin "object.__getattribute__") = false from by decide +kernel, Bool.and_false], if_neg (by decide)]
  unfold getAttrByItsOwn
  refine wpAny_bind (L2.at ?_)
  refine wpAny_bind (wpAny_attempt (wpAny_holding ?_))
  unfold callGetattribute
  rw [show (expr && onTheHeap (Value.builtin "tuple.__getattribute__")) = false from Bool.and_false _, if_neg (by decide)]
  unfold boundAndCalled
  rw [F.slot_tuple_getattribute.bind]
  refine wpAny_bind (wpAny_pure ?_)
  show wpAny _ _ (call (.builtin "tuple.__getattribute__") [.ref x, .str name t]) _ _ _
  refine wpAny_call (codeAny_call_builtin F.slot_tuple_getattribute.plain F.entry_tuple_ga ?_)
  refine @check_slot (model prog w) _ _ _ "tuple.__getattribute__" "tuple" "__getattribute__" (.ref x) [.str name t] [] _ (by decide +kernel) (by decide +kernel) (L0.andThen L4) (F.args_tuple_getattribute_2 _ _) ?_
  refine wpAny_bind (wpAny_pure (wpAny_bind (wpAny_pure (wpAny_bind (L0.at (wpAny_bind (L3.at ?_)))))))
  show wpAny _ _ (holding [a] (call g [a, .ref x, .ref C]) >>= ret) _ _ _
  exact wpAny_bind (wpAny_holding (wpAny_mono (h _) (fun v s' z => wpAny_pure z) fun _ _ z => z))
end

/-- the six kinds: the item's class, its granularity, the granularity's seconds and name -/
def clsA : Nat → Addr
  | 0 => 309 | 1 => 292 | 2 => 275 | 3 => 258 | 4 => 241 | _ => 224
def grA : Nat → Addr
  | 0 => 306 | 1 => 289 | 2 => 272 | 3 => 255 | 4 => 238 | _ => 221
def secs : Nat → Int
  | 0 => 1 | 1 => 60 | 2 => 3600 | 3 => 86400 | 4 => 2592000 | _ => 31104000
def nm : Nat → Str
  | 0 => Str.ofString "second" | 1 => Str.ofString "minute" | 2 => Str.ofString "hour" | 3 => Str.ofString "day" | 4 => Str.ofString "month" | _ => Str.ofString "year"

structure KindF (K : Frag) : Prop where
  look : ∀ k, k < 6 → ∃ d n t1 t2, K.lookup (grA k) = some ⟨.ref 139, some d, .seq #[.int (secs k) t1, .str (nm k) t2] n, #[]⟩ ∧ K.lookup d = some (dictOf [] 0)
  pgAm : ∀ k, k < 6 → plainGet K (clsA k) "amount" = true
  pgMu : ∀ k, k < 6 → plainGet K (clsA k) "multiples" = true
  pgNs : ∀ k, k < 6 → plainGet K (clsA k) "namespace" = true
  hd : ∀ k, k < 6 → hasDictIn K (clsA k) = true
  ownAm : ∀ k, k < 6 → findIn K (.ref (clsA k)) "amount" = some none
  ownMu : ∀ k, k < 6 → findIn K (.ref (clsA k)) "multiples" = some none
  ownNs : ∀ k, k < 6 → findIn K (.ref (clsA k)) "namespace" = some none
  gran : ∀ k, k < 6 → findIn K (.ref (clsA k)) "GRANULARITY" = some (some (.ref (grA k)))
  granGet : ∀ k, k < 6 → specialIn K (.ref (grA k)) "__get__" = some none
  mKey : ∀ k, k < 6 → findIn K (.ref (clsA k)) "key_for" = some (some (.ref 181))
  mExp : ∀ k, k < 6 → findIn K (.ref (clsA k)) "get_expiry" = some (some (.ref 174))
  mEq : ∀ k, k < 6 → findIn K (.ref (clsA k)) "__eq__" = some (some (.ref 188))
  mLt : ∀ k, k < 6 → findIn K (.ref (clsA k)) "__lt__" = some (some (.ref 202))
  mChk : ∀ k, k < 6 → findIn K (.ref (clsA k)) "check_granularity_string" = some (some (.ref 166))
  fKey : isFn K (.ref 181) = true
  fExp : isFn K (.ref 174) = true
  fEq : isFn K (.ref 188) = true
  fLt : isFn K (.ref 202) = true
  clsGran : ∀ k, k < 6 → findCls K (.ref (clsA k)) (.type "type") "GRANULARITY" = some (.val (.ref (grA k)))
  clsType : ∀ k, k < 6 → typeIn K (.ref (clsA k)) = some (.type "type")
  clsReads : ∀ k, k < 6 → readsIn K (clsA k) (.type "type") = true
  isA : ∀ k, k < 6 → isIn K (.ref (clsA k)) 205 = true
  notFirst : ∀ k, k < 6 → ∀ j, j < 6 → notFirst K (clsA k) (.ref (clsA j)) = true
  notFirstS : ∀ k, k < 6 → W.notFirst K (clsA k) (.type "str") = true
  notFirstT : ∀ k, k < 6 → W.notFirst K (clsA k) (.type "tuple") = true
  gGa : findIn K (.ref 139) "__getattribute__" = some (some (.builtin "tuple.__getattribute__"))
  gHook : findIn K (.ref 139) "__getattr__" = some none
  gSub : subIn K (.ref 139) (.type "tuple") = some true
  gCls : isClsIn K 139 = true
  gEq : findIn K (.ref 139) "__eq__" = some (some (.builtin "tuple.__eq__"))
  gSec : findIn K (.ref 139) "seconds" = some (some (.ref 131))
  gNam : findIn K (.ref 139) "name" = some (some (.ref 134))
  gSecG : specialIn K (.ref 131) "__get__" = some (some (.ref 43))
  gNamG : specialIn K (.ref 134) "__get__" = some (some (.ref 43))
  gSecT : takesIn K (.ref 131) = some true
  gNamT : takesIn K (.ref 134) = some true

/-- an item of the ledger: its kind, amount, times, namespace -/
def ItemAt (news : Led) (x : Addr) (k : Nat) (am ti : Int) (sp : Str) : Prop :=
  ∃ dx h1 h2 h3 t1 t2 t3 t4 t5 t6 n, (x, instObj (clsA k) dx) ∈ news ∧
    (dx, dictOf [⟨h1, .str (Str.ofString "namespace") t1, .str sp t2⟩, ⟨h2, .str (Str.ofString "amount") t3, .int am t4⟩, ⟨h3, .str (Str.ofString "multiples") t5, .int ti t6⟩] n) ∈ news
theorem ItemAt.mono {news news' : Led} {x : Addr} {k : Nat} {am ti : Int} {sp : Str} (h : ItemAt news x k am ti sp) (hs : ∀ p ∈ news, p ∈ news') : ItemAt news' x k am ti sp := by
  obtain ⟨dx, h1, h2, h3, t1, t2, t3, t4, t5, t6, n, a, b⟩ := h
  exact ⟨dx, h1, h2, h3, t1, t2, t3, t4, t5, t6, n, hs _ a, hs _ b⟩

section
variable {prog : Program} {w : World} {A : Around} {E : Value → Shared → Prop} {Q : Value → Shared → Prop} {s : Shared} {K : Frag} {h₀ : Heap} {L : Addr} {m : SMap} {news : Led} {x : Addr} {k : Nat} {am ti : Int} {sp : Str} {expr : Bool}
theorem it_amount (KD : KindF K) (hk : k < 6) (F : Fr h₀ L s.heap m) (X₀ : K.In h₀) (N : News h₀ L s.heap news) (I : ItemAt news x k am ti sp) (h : ∀ t, Q (.int am t) { s with toks := s.toks + 1 }) : wpAny (model prog w) A (getAttr (.ref x) "amount" expr) Q E s := by
  obtain ⟨dx, h1, h2, h3, t1, t2, t3, t4, t5, t6, n, a, b⟩ := I
  exact get_own F X₀ (InstAt.of_news N a b) (KD.pgAm k hk) (KD.hd k hk) (KD.ownAm k hk) rfl (by rfl) rfl (h _)
theorem it_multiples (KD : KindF K) (hk : k < 6) (F : Fr h₀ L s.heap m) (X₀ : K.In h₀) (N : News h₀ L s.heap news) (I : ItemAt news x k am ti sp) (h : ∀ t, Q (.int ti t) { s with toks := s.toks + 1 }) : wpAny (model prog w) A (getAttr (.ref x) "multiples" expr) Q E s := by
  obtain ⟨dx, h1, h2, h3, t1, t2, t3, t4, t5, t6, n, a, b⟩ := I
  exact get_own F X₀ (InstAt.of_news N a b) (KD.pgMu k hk) (KD.hd k hk) (KD.ownMu k hk) rfl (by rfl) rfl (h _)
theorem it_namespace (KD : KindF K) (hk : k < 6) (F : Fr h₀ L s.heap m) (X₀ : K.In h₀) (N : News h₀ L s.heap news) (I : ItemAt news x k am ti sp) (h : ∀ t, Q (.str sp t) { s with toks := s.toks + 1 }) : wpAny (model prog w) A (getAttr (.ref x) "namespace" expr) Q E s := by
  obtain ⟨dx, h1, h2, h3, t1, t2, t3, t4, t5, t6, n, a, b⟩ := I
  exact get_own F X₀ (InstAt.of_news N a b) (KD.pgNs k hk) (KD.hd k hk) (KD.ownNs k hk) rfl (by rfl) rfl (h _)
theorem it_gran (KD : KindF K) (hk : k < 6) (F : Fr h₀ L s.heap m) (X₀ : K.In h₀) (N : News h₀ L s.heap news) (I : ItemAt news x k am ti sp) (h : Q (.ref (grA k)) { s with toks := s.toks + 1 }) : wpAny (model prog w) A (getAttr (.ref x) "GRANULARITY" expr) Q E s := by
  obtain ⟨dx, h1, h2, h3, t1, t2, t3, t4, t5, t6, n, a, b⟩ := I
  exact get_cls F X₀ (InstAt.of_news N a b) (KD.pgAm k hk) (KD.hd k hk) (KD.gran k hk) (KD.granGet k hk) rfl (by decide +kernel) (by rfl) h
theorem it_method {pl : Sem Bool} {Q : Value × List Value → Shared → Prop} {f : Addr} {name : Str} (KD : KindF K) (hk : k < 6) (F : Fr h₀ L s.heap m) (X₀ : K.In h₀) (N : News h₀ L s.heap news) (I : ItemAt news x k am ti sp)
    (hm : findIn K (.ref (clsA k)) name = some (some (.ref f))) (hf : isFn K (.ref f) = true) (hl : ∀ t1 t2 t3 t4 t5 t6 h1 h2 h3, getL name [⟨h1, .str (Str.ofString "namespace") t1, .str sp t2⟩, ⟨h2, .str (Str.ofString "amount") t3, .int am t4⟩, ⟨h3, .str (Str.ofString "multiples") t5, .int ti t6⟩] = some none)
    (h : Q (.ref f, [.ref x]) s) : wpAny (model prog w) A (getMethod (.ref x) name pl) Q E s := by
  obtain ⟨dx, h1, h2, h3, t1, t2, t3, t4, t5, t6, n, a, b⟩ := I
  exact method_inst F X₀ (InstAt.of_news N a b) (KD.pgAm k hk) hm hf (hl _ _ _ _ _ _ _ _ _) h

variable {p : Program} {lo : List Str} {mean : ExcName → Option Value} {mg mb : SMap} {dp un : Nat} {gd : Option (List Code)} {cn : Str} {cs : Scope} {a : Addr} {ccd : Value} {cl : List (Str × Addr)} {outer : List Env} {A₀ : Around} {base : Heap}
def CSec (prog : Program) (w : World) (K : Frag) (p : Program) (lo : List Str) (mean : ExcName → Option Value) (mg mb : SMap) : Prop :=
  ∀ (news : Led) (G d : Addr) (a0 a1 : Value) (n : Nat) (sl : Array (Option Value)), K.lookup G = some ⟨.ref 139, some d, .seq #[a0, a1] n, sl⟩ → Con 4 40 prog w K p lo mean mg mb (.ref 43) [.ref 131, .ref G, .ref 139] news (fun r tl => tl = [] ∧ r = a0)
def CNam (prog : Program) (w : World) (K : Frag) (p : Program) (lo : List Str) (mean : ExcName → Option Value) (mg mb : SMap) : Prop :=
  ∀ (news : Led) (G d : Addr) (a0 a1 : Value) (n : Nat) (sl : Array (Option Value)), K.lookup G = some ⟨.ref 139, some d, .seq #[a0, a1] n, sl⟩ → Con 4 40 prog w K p lo mean mg mb (.ref 43) [.ref 134, .ref G, .ref 139] news (fun r tl => tl = [] ∧ r = a1)

theorem gr_inst {h : Heap} {G d : Addr} {a0 a1 : Value} {n : Nat} {sl : Array (Option Value)} (X : K.In h) (hG : K.lookup G = some ⟨.ref 139, some d, .seq #[a0, a1] n, sl⟩) (hd : K.lookup d = some (dictOf [] 0)) :
    InstAt h G ⟨.ref 139, some d, .seq #[a0, a1] n, sl⟩ 139 (some (dictOf [] 0)) := ⟨X _ _ hG, rfl, rfl, X _ _ hd⟩
theorem gr_seconds (c : CSec prog w K p lo mean mg mb) (KD : KindF K) (hk : k < 6) (F : Fr h₀ L s.heap m) (X₀ : K.In h₀) (N : News h₀ L s.heap news) (B : Below A₀ base outer h₀) (T : Top p lo mean mg mb h₀) (hcs : cs.kind = .function) (hd : dp + 5 < recursionLimit) (hu : un + 50 < cLine)
    (h : ∀ t h' tk', Fr h₀ L h' m → News h₀ L h' news → Q (.int (secs k) t) { s with heap := h', toks := tk' }) :
    wpAny (model prog w) (ktrTop dp un gd cn cs L a ccd cl outer) (getAttr (.ref (grA k)) "seconds" expr) Q E s := by
  obtain ⟨d, n, t1, t2, hG, hdd⟩ := KD.look k hk
  refine gt_bind (X₀.keeps F.keep) (gr_inst (X₀.keeps F.keep) hG hdd) KD.gGa KD.gSub (findObj_data KD.gCls KD.gSec KD.gSecG KD.gSecT) KD.gHook fun E' => ?_
  refine Con.use (s := { s with toks := s.toks + 1 }) F X₀ N B T hcs (dp := dp) (by show dp + 4 < recursionLimit; omega) (un := un + 1) (by omega) (c _ _ _ _ _ _ _ hG) ?_
  rintro r tl h' tk' F' N' ⟨rfl, rfl⟩
  exact handed_on rfl (h _ _ _ F' N')
theorem gr_name (c : CNam prog w K p lo mean mg mb) (KD : KindF K) (hk : k < 6) (F : Fr h₀ L s.heap m) (X₀ : K.In h₀) (N : News h₀ L s.heap news) (B : Below A₀ base outer h₀) (T : Top p lo mean mg mb h₀) (hcs : cs.kind = .function) (hd : dp + 5 < recursionLimit) (hu : un + 50 < cLine)
    (h : ∀ t h' tk', Fr h₀ L h' m → News h₀ L h' news → Q (.str (nm k) t) { s with heap := h', toks := tk' }) :
    wpAny (model prog w) (ktrTop dp un gd cn cs L a ccd cl outer) (getAttr (.ref (grA k)) "name" expr) Q E s := by
  obtain ⟨d, n, t1, t2, hG, hdd⟩ := KD.look k hk
  refine gt_bind (X₀.keeps F.keep) (gr_inst (X₀.keeps F.keep) hG hdd) KD.gGa KD.gSub (findObj_data KD.gCls KD.gNam KD.gNamG KD.gNamT) KD.gHook fun E' => ?_
  refine Con.use (s := { s with toks := s.toks + 1 }) F X₀ N B T hcs (dp := dp) (by show dp + 4 < recursionLimit; omega) (un := un + 1) (by omega) (c _ _ _ _ _ _ _ hG) ?_
  rintro r tl h' tk' F' N' ⟨rfl, rfl⟩
  exact handed_on rfl (h _ _ _ F' N')
end


def txt (i : Int) : Str := Str.ofString (toString i)
/-- what safe_string takes, and the text that it makes of it -/
inductive SafeV : Value → Str → Prop
  | int (i : Int) (t : Tok) : i.natAbs < 10 ^ 31 → SafeV (.int i t) (txt i)
  | str (x : Str) (t : Tok) : x.length ≤ 100 → SafeV (.str x t) x
  | bytes (c : Nat) (t : Tok) : 65 ≤ c → c < 91 → SafeV (.bytes #[UInt8.ofNat c, 47] t) (Str.mk #[c, 47])
section
variable (prog : Program) (w : World) (K : Frag) (p : Program) (lo : List Str) (mean : ExcName → Option Value) (mg mb : SMap)
def CExp : Prop := ∀ (news : Led) (x : Addr) (k : Nat) (am ti : Int) (sp : Str), k < 6 → 0 ≤ ti → ti ≤ 30 → ItemAt news x k am ti sp →
  Con 20 200 prog w K p lo mean mg mb (.ref 174) [.ref x] news (fun r tl => tl = [] ∧ ∃ t, r = .int (secs k * ti) t)
def CSafe : Prop := ∀ (news : Led) (v : Value) (x : Str), SafeV v x → Con 20 200 prog w K p lo mean mg mb (.ref 71) [v] news (fun r tl => tl = [] ∧ ∃ t, r = .str x t)
end
theorem dec_pure {c : Nat} (h1 : 65 ≤ c) (h2 : c < 91) : ∀ id, Builtin._codecs.runDecoder id Builtin._codecs.utf8Decoder none true ([UInt8.ofNat c, 47] : List UInt8).toArray 0 [] = pure ((Str.mk #[c, 47]).cps, 2) := by
  have hc : c = 65 ∨ c = 66 ∨ c = 67 ∨ c = 68 ∨ c = 69 ∨ c = 70 ∨ c = 71 ∨ c = 72 ∨ c = 73 ∨ c = 74 ∨ c = 75 ∨ c = 76 ∨ c = 77 ∨ c = 78 ∨ c = 79 ∨ c = 80 ∨ c = 81 ∨ c = 82 ∨ c = 83 ∨ c = 84 ∨ c = 85 ∨ c = 86 ∨ c = 87 ∨ c = 88 ∨ c = 89 ∨ c = 90 := by omega
  intro id
  rcases hc with rfl | rfl | rfl | rfl | rfl | rfl | rfl | rfl | rfl | rfl | rfl | rfl | rfl | rfl | rfl | rfl | rfl | rfl | rfl | rfl | rfl | rfl | rfl | rfl | rfl | rfl <;> kernel_rfl
theorem dec26 {prog : Program} {w : World} {A : Around} {E : Value → Shared → Prop} {Q : Value → Shared → Prop} {s : Shared} {c : Nat} {t : Tok} (h1 : 65 ≤ c) (h2 : c < 91) (h : ∀ t' k, Q (.str (Str.mk #[c, 47]) t') { s with toks := k }) :
    wpAny (model prog w) A (call (.builtin "bytes.decode") [.bytes #[UInt8.ofNat c, 47] t]) Q E s :=
  KBd.decode (dec_pure h1 h2) (by show 2 ≤ 16777216; decide) h
theorem secs_le (k : Nat) : 0 ≤ secs k ∧ secs k ≤ 31104000 := by unfold secs; split <;> decide

/-! ### Q1 -/
section
variable {prog : Program} {w : World} {A : Around} {E : Value → Shared → Prop} {s : Shared} {h₀ : Heap} {L : Addr} {m : SMap} {env : Env}
open LCg

/-- what a turn of a block leaves -/
def TurnEnd (h₀ : Heap) (L : Addr) (m : SMap) (s : Shared) (G : Value → Value → Led → Prop) (v : Value) (nw : Led) (I : Addr) (oI : Obj) (C : Addr) (oC : Obj) (D : Addr) (oD : Obj) (y : Value) (s₂ : Shared) : Prop :=
  ∃ h' tk' tl, s₂ = { s with heap := h', toks := tk' } ∧ Fr h₀ L h' m ∧ News h₀ L h' (tl ++ (I, oI) :: (C, oC) :: (D, oD) :: nw) ∧ (∀ q ∈ (I, oI) :: (C, oC) :: (D, oD) :: nw, ∀ p ∈ tl, q.1 < p.1) ∧ G v y (tl ++ nw)
/-- a block over a list or a tuple of any length: each turn lays tl ahead of the ledger, and tells G of its item and what it makes -/
theorem comp_rest {elt : Expr} {x : Str} {scope : Scope} {cl : List (Str × Addr)} {S : Led → Prop} {Fin : List Value → Led → Prop} (G : Value → Value → Led → Prop)
    (mono : ∀ {v y : Value} {n n' : Led}, (∀ p ∈ n, p ∈ n') → G v y n → G v y n') {news : Led} {its : List Value}
    (srcS : ∀ tl, S (tl ++ news))
    (turn : ∀ v I oI C oC D m₂ ys nw h tk (E' : Value → Shared → Prop), v ∈ its → NsObj oC m₂ → m₂ x = some v → Fr h₀ L h m → News h₀ L h ((I, oI) :: (C, oC) :: (D, lst ys) :: nw) → (∀ p ∈ news, p ∈ nw) →
      wpAny (model prog w) A (eval elt (compEnvC scope cl C env))
        (TurnEnd h₀ L m s G v nw I oI C oC D (lst ys)) E' { s with heap := h, toks := tk })
    (fin : ∀ ys tl, Paired (fun v y => G v y (tl ++ news)) its ys → Fin ys (tl ++ news)) :
    CompRest prog w A h₀ L m env elt x scope cl s S (fun i v => its.toArray[i]? = some v) Fin its.toArray.size 0 [] news := by
  have key : ∀ (j i : Nat) (ys : List Value) (tl : Led), i + j = its.length → Paired (fun v y => G v y (tl ++ news)) (its.take i) ys →
      CompRest prog w A h₀ L m env elt x scope cl s S (fun i v => its.toArray[i]? = some v) Fin j i ys (tl ++ news) := by
    intro j
    induction j with
    | zero =>
      intro i ys tl hi hy
      rw [show i = its.length by omega, List.take_length] at hy
      exact CompRest.zero (fin ys tl hy)
    | succ j ih =>
      intro i ys tl hi hy
      refine CompRest.succ ?_
      intro v I oI C oC D m₂ h tk E' hv hC hx F N off ne
      have hv' : its[i]? = some v := by simpa using hv
      refine wpAny_mono (turn v I oI C oC D m₂ ys (tl ++ news) h tk E' (List.mem_of_getElem? hv') hC hx F N (fun p hp => List.mem_append.mpr (.inr hp))) (fun y s₂ hq => ?_) fun _ _ e => e
      obtain ⟨h', tk', tl', rfl, F', N', hord, hG⟩ := hq
      refine ⟨h', tk', tl' ++ (tl ++ news), rfl, F', fun p hp => N' p ?_, ?_, ?_, ?_⟩
      · simp only [List.mem_cons, List.mem_append] at hp ⊢
        rcases hp with rfl | rfl | rfl | h1 | h1 | h1
        · exact .inr (.inl rfl)
        · exact .inr (.inr (.inl rfl))
        · exact .inr (.inr (.inr (.inl rfl)))
        · exact .inl h1
        · exact .inr (.inr (.inr (.inr (.inl h1))))
        · exact .inr (.inr (.inr (.inr (.inr h1))))
      · refine Off3.of fun p hp => ?_
        rcases List.mem_append.mp hp with h1 | h1
        · refine ⟨?_, ?_, ?_⟩
          · exact Ne.symm (Nat.ne_of_lt (hord (I, oI) (.head _) p h1))
          · exact Ne.symm (Nat.ne_of_lt (hord (C, oC) (.tail _ (.head _)) p h1))
          · exact Ne.symm (Nat.ne_of_lt (hord (D, lst ys) (.tail _ (.tail _ (.head _))) p h1))
        · exact off.mem p h1
      · rw [← List.append_assoc]; exact srcS _
      · rw [← List.append_assoc]
        refine ih (i + 1) (ys ++ [y]) (tl' ++ tl) (by omega) ?_
        rw [List.take_add_one, hv']
        have h1 : Paired (fun v y => G v y ((tl' ++ tl) ++ news)) (its.take i) ys := by
          refine hy.mono fun a b hab => mono (fun p hp => ?_) hab
          rw [List.append_assoc]; exact List.mem_append.mpr (.inr hp)
        have h2 : G v y ((tl' ++ tl) ++ news) := by rw [List.append_assoc]; exact hG
        exact Paired.snoc h1 h2
  have := key its.length 0 [] [] (by omega) .nil
  simpa using this

def SrcT (h₀ : Heap) (ax : Addr) (its : Array Value) (news : Led) : Prop := h₀.IsTuple ax its ∨ ∃ o, (ax, o) ∈ news ∧ o.cls = .type "tuple" ∧ ∃ n, o.data = .seq its n
theorem SrcT.tup {h₀ h : Heap} {L ax : Addr} {its : Array Value} {news : Led} (x : SrcT h₀ ax its news) (k : ∀ b o, h₀.get? b = some o → h.get? b = some o) (N : News h₀ L h news) : h.IsTuple ax its := by
  rcases x with ⟨o, e, r⟩ | ⟨o, hm, r⟩
  · exact ⟨o, k _ _ e, r⟩
  · exact ⟨o, (N _ hm).1, r⟩
theorem tup_st {h₀ : Heap} {L ax I : Addr} {its : Array Value} : ∀ i (h h' : Heap) (o : Obj) (nw : Led), (h.IsTupleIter I ax i ∧ h.IsTuple ax its) → h.get? I = some o → h'.get? I = some o → (∀ b o, h₀.get? b = some o → h'.get? b = some o) → News h₀ L h' nw → SrcT h₀ ax its nw → (h'.IsTupleIter I ax i ∧ h'.IsTuple ax its) :=
  fun i h h' o nw st e e' k N S => ⟨by obtain ⟨o', q, r⟩ := st.1; rw [e] at q; cases q; exact ⟨o, e', r⟩, S.tup k N⟩

theorem ListComp_tup {elt iter : Expr} {x : Str} {px : Pos} {scope : Scope} {cl : List (Str × Addr)} {pos : Pos} {Q : Value → Shared → Prop} (F₀ : Fr h₀ L s.heap m)
    (hclos : closureFor scope env = pure cl) (hcell : ∀ y ∈ scope.names, y.2 ≠ .cell) (hkind : scope.kind = .function)
    (hnames : ∀ y ∈ scope.names, y.2 = .local → scope.names.lookup y.1 = some .local) (hx : scope.names.lookup x = some .local)
    (h : wpAny (model prog w) A (eval iter env) (fun xv s₁ => ∃ ax its news, xv = .ref ax ∧ A.handled = none ∧ Fr h₀ L s₁.heap m ∧ News h₀ L s₁.heap news ∧ SrcT h₀ ax its news ∧ its.size ≤ sizeLine ∧
      ∀ s₂ : Shared, (∃ h, s₂ = { s₁ with heap := h }) → CompRest prog w A h₀ L m env elt x scope cl s₂ (SrcT h₀ ax its) (fun i v => its[i]? = some v) (FinE h₀ L m s₂ Q) its.size 0 [] news) E s)
    (hs : ∀ x, foldedSetIterable iter env x = pure x := by intro _; rfl) :
    wpAny (model prog w) A (eval (.ListComp elt [⟨.Name x px, iter, [], 0⟩] scope pos) env) Q E s := by
  rw [eval_ListComp]
  refine wpAny_comprehension_free (use := none) rfl hs hclos hkind hnames (wpAny_mono h (fun xv s₁ h₁ => ?_) fun _ _ e => e)
  obtain ⟨ax, its, news, rfl, hh, F, N, S, hsz, R⟩ := h₁
  have hl := S.tup F.keep N
  have hlt : ax < s₁.heap.objs.size := by obtain ⟨_, e, _⟩ := hl; exact Heap.lt_size e
  refine wpAny_pyIter_tuple hl ?_
  have up : ∀ b o, s₁.heap.get? b = some o → (s₁.heap.push { cls := .type "tuple_iterator", data := .fields #[.ref ax, .int 0 0] }).get? b = some o := fun b o e => Heap.get?_push_of_some _ e
  refine block_U (Walks.tuple hh s₁.heap.objs.size ax (Nat.ne_of_lt hlt) its) hsz (fun i h st => by obtain ⟨o, e, _⟩ := st.1; exact ⟨o, e⟩) tup_st hcell hkind hx ⟨⟨_, Heap.get?_push_size _ rfl, rfl, rfl⟩, hl.push _⟩ (fun b hb => ?_)
    (F.keeps up) (N.grown up) (Nat.ne_of_lt F.ns.lt) (next_is_new F) (fun p hp => Nat.ne_of_lt (Heap.lt_size (N p hp).1)) S (R _ ⟨_, rfl⟩) ?_
  · show b < (s₁.heap.push _).objs.size
    rw [Heap.size_push]
    rcases List.mem_cons.mp hb with rfl | hb
    · exact Nat.lt_succ_self _
    · rw [List.mem_singleton.mp hb]; exact Nat.lt_succ_of_lt hlt
  · intro D C h' tk m' ys news' F' N' o1 hn hC₀ hD₀ hCL hDL hCD offC fin
    refine ⟨m', hn, fun h'' hs'' => fin D h'' tk (F'.change hs'' hCL hC₀) (fun p hp => ?_) o1⟩
    refine ⟨hs''.extBut _ _ ?_ (N' p hp).1, (N' p hp).2⟩
    rcases List.mem_cons.mp hp with rfl | hp
    · exact Ne.symm hCD
    · exact offC p hp
end

/-! ### N -/
def Halt (P : Prop) : Prop := P
theorem halt_of {P : Prop} (h : Halt P) : P := h
theorem CSafe.use {prog : Program} {w : World} {K : Frag} {p : Program} {lo : List Str} {mean : ExcName → Option Value} {mg mb : SMap} {news : Led} {v : Value} {x : Str} (c : CSafe prog w K p lo mean mg mb) (h : SafeV v x) :
    Con 20 200 prog w K p lo mean mg mb (.ref 71) [v] news (fun r tl => tl = [] ∧ ∃ t, r = .str x t) := c news v x h
theorem CExp.use {prog : Program} {w : World} {K : Frag} {p : Program} {lo : List Str} {mean : ExcName → Option Value} {mg mb : SMap} {news : Led} {x : Addr} {k : Nat} {am ti : Int} {sp : Str} (c : CExp prog w K p lo mean mg mb) (I : ItemAt news x k am ti sp) (hk : k < 6) (h0 : 0 ≤ ti) (h1 : ti ≤ 30) :
    Con 20 200 prog w K p lo mean mg mb (.ref 174) [.ref x] news (fun r tl => tl = [] ∧ ∃ t, r = .int (secs k * ti) t) := c news x k am ti sp hk h0 h1 I
theorem SafeV.one {v : Value} {x y : Str} (h : SafeV v x) (k : SafeV v y) : x = y := by
  cases h with
  | int i t hi => cases k; rfl
  | str x t hx => cases k; rfl
  | bytes c t h1 h2 =>
    generalize hv : Value.bytes #[UInt8.ofNat c, 47] t = v at k
    cases k with
    | int _ _ _ => cases hv
    | str _ _ _ => cases hv
    | bytes c' t' h1' h2' =>
      injection hv with hb _
      have hb' : UInt8.ofNat c = UInt8.ofNat c' := by
        have := congrArg (fun a : Array UInt8 => a.toList) hb
        simp only [List.cons.injEq] at this
        exact this.1
      have := congrArg UInt8.toNat hb'
      rw [UInt8.toNat_ofNat_of_lt' (show c < 256 by omega), UInt8.toNat_ofNat_of_lt' (show c' < 256 by omega)] at this
      rw [this]
theorem safe_strs {vs ys : List Value} {ts : List Str} (h : Paired SafeV vs ts) (k : Paired (fun v y => ∀ x, SafeV v x → ∃ t, y = .str x t) vs ys) : StrsAre ys ts := by
  induction h generalizing ys with
  | nil => cases k; exact .nil
  | cons h1 _ ih =>
    cases k with
    | cons k1 k2 =>
      obtain ⟨t, rfl⟩ := k1 _ h1
      exact .cons _ _ (ih k2)
theorem Paired.mem {α β : Type} {F : α → β → Prop} {a : α} : ∀ {l₁ : List α} {l₂ : List β}, Paired F l₁ l₂ → a ∈ l₁ → ∃ b, b ∈ l₂ ∧ F a b
  | _, _, .nil, h => nomatch h
  | _, _, .cons h t, hm => by
    rcases List.mem_cons.mp hm with rfl | hm
    · exact ⟨_, List.mem_cons_self, h⟩
    · obtain ⟨b, hb, hf⟩ := Paired.mem t hm
      exact ⟨b, List.mem_cons_of_mem _ hb, hf⟩
theorem SafeV.len {v : Value} {x : Str} (h : SafeV v x) : x.length ≤ 100 := by
  cases h with
  | int i t hi =>
    have e := int_text_length_le10 (k := 31) (by decide) hi
    unfold txt
    rw [PySem.ofString_length]; omega
  | str x t hx => exact hx
  | bytes c t h1 h2 => show 2 ≤ 100; decide
theorem strs_app : ∀ {vs ws : List Value} {ss ts : List Str}, StrsAre vs ss → StrsAre ws ts → StrsAre (vs ++ ws) (ss ++ ts)
  | _, _, _, _, .nil, k => k
  | _, _, _, _, .cons y t h, k => .cons y t (strs_app h k)
theorem txt_len {i : Int} (h : i.natAbs < 10 ^ 31) : (txt i).length ≤ 100 := SafeV.len (.int i 0 h)
theorem nm_len (k : Nat) : (nm k).length ≤ 6 := by unfold nm; split <;> decide
theorem safe_weight {vs : List Value} {ts : List Str} (h : Paired SafeV vs ts) : (ts.map (·.length)).sum ≤ 100 * ts.length := by
  induction h with
  | nil => simp
  | cons a _ ih => have := a.len; simp only [List.map_cons, List.sum_cons, List.length_cons]; omega
theorem key_weight {vs : List Value} {ts : List Str} {am ti : Int} {k : Nat} (h : Paired SafeV vs ts) (_hk : k < 6) (h1 : 0 ≤ am) (h2 : am ≤ 2) (h3 : 0 ≤ ti) (h4 : ti ≤ 30) (hlen : vs.length ≤ 6) :
    ((ts ++ [txt am, txt ti, nm k]).map (·.length)).sum + (ts ++ [txt am, txt ti, nm k]).length ≤ 1048576 := by
  have e1 := safe_weight h
  have e2 := Paired.length h
  have e3 : (txt am).length ≤ 100 := txt_len (by omega)
  have e4 : (txt ti).length ≤ 100 := txt_len (by omega)
  have e5 := nm_len k
  simp only [List.map_append, List.sum_append, List.map_cons, List.map_nil, List.sum_cons, List.sum_nil, List.length_append, List.length_cons, List.length_nil]
  omega
theorem txt_join (x : Str) (l : List Str) : Txt.join x l = Str.join x l := beq_iff_eq.mp (join_plain_closes x l)
theorem key_len {vs : List Value} {ts : List Str} {am ti : Int} {k : Nat} (h : Paired SafeV vs ts) (hk : k < 6) (h1 : 0 ≤ am) (h2 : am ≤ 2) (h3 : 0 ≤ ti) (h4 : ti ≤ 30) (hlen : vs.length ≤ 6) :
    (Txt.join (Str.ofString "/") (ts ++ [txt am, txt ti, nm k])).length ≤ 2000 := by
  have e1 := safe_weight h
  have e2 := Paired.length h
  have e3 : (txt am).length ≤ 100 := txt_len (by omega)
  have e4 : (txt ti).length ≤ 100 := txt_len (by omega)
  have e5 := nm_len k
  have e6 := StrLaws.join_length_le (Str.ofString "/") (ts ++ [txt am, txt ti, nm k])
  have e7 : (Str.ofString "/").length = 1 := by decide +kernel
  rw [txt_join]
  simp only [List.map_append, List.sum_append, List.map_cons, List.map_nil, List.sum_cons, List.sum_nil, List.length_append, List.length_cons, List.length_nil, e7] at e6
  omega
section
variable (prog : Program) (w : World) (K : Frag) (p : Program) (lo : List Str) (mean : ExcName → Option Value) (mg mb : SMap)
def keyT (sp : Str) (ts : List Str) (am ti : Int) (k : Nat) : Str := sp ++ Str.ofString "/" ++ Txt.join (Str.ofString "/") (ts ++ [txt am, txt ti, nm k])
def CKey : Prop := ∀ (news : Led) (x : Addr) (k : Nat) (am ti : Int) (sp : Str) (T : Addr) (vs : List Value) (ts : List Str) (n : Nat), k < 6 → 0 ≤ am → am ≤ 2 → 0 ≤ ti → ti ≤ 30 → sp.length ≤ 10 → ItemAt news x k am ti sp →
  (T, ({ cls := .type "tuple", data := .seq vs.toArray n } : Obj)) ∈ news → Paired SafeV vs ts → vs.length ≤ 6 →
  Con 40 400 prog w K p lo mean mg mb (.ref 181) [.ref x, .ref T] news (fun r tl => tl = [] ∧ ∃ t, r = .str (keyT sp ts am ti k) t)
end

/-! ### G1 -/
section
variable {prog : Program} {w : World} {A : Around} {E : Value → Shared → Prop} {s : Shared} {K : Frag} {G1 G2 d1 d2 : Addr} {n1 n2 : Nat} {a c : Int} {b e : Str} {t1 t2 t3 t4 : Tok} {sl sl2 : Array (Option Value)} {Q : Value → Shared → Prop}
theorem gr_eq_body {R : Result → Shared → Prop} (X : K.In s.heap) (h1 : K.lookup G1 = some ⟨.ref 139, some d1, .seq #[.int a t1, .str b t2] n1, sl⟩) (h2 : K.lookup G2 = some ⟨.ref 139, some d2, .seq #[.int c t3, .str e t4] n2, sl2⟩)
    (hsub : subIn K (.ref 139) (.type "tuple") = some true) (h : R (.ok (.ret (.bool (decide (a = c) && decide (b = e))))) s) :
    codeAny (model prog w) A (.call (.builtin "tuple.__eq__") ⟨[.ref G1, .ref G2], []⟩) R s := by
  have ho1 := X _ _ h1
  have ho2 := X _ _ h2
  obtain ⟨hh, g, d, t, os⟩ := s
  dsimp only at ho1 ho2
  have L2 : Looks (model prog w) hh (isSubtype (.ref 139) (.type "tuple")) true := looks_subIn X hsub
  have L3 : Looks (model prog w) hh (typeOf (.ref G1)) (.ref 139) := (Looks.ld ho1).andThen .now
  have L4 : Looks (model prog w) hh (typeOf (.ref G2)) (.ref 139) := (Looks.ld ho2).andThen .now
  have L5 : Looks (model prog w) hh (isInstance (.ref G2) (.type "tuple")) true := L4.andThen L2
  refine codeAny_call_builtin slot_tuple_eq.plain entry_tuple_eq ?_
  refine @check_slot (model prog w) _ _ _ "tuple.__eq__" "tuple" "__eq__" (.ref G1) [.ref G2] [] _ (by decide +kernel) (by decide +kernel) (L3.andThen L2) (args_tuple_eq _ _) ?_
  have E1 : ∀ {A' : Around} {E' : Value → Shared → Prop} {Q' : Bool → Shared → Prop} {s' : Shared}, Q' (a == c) s' → wpAny (model prog w) A' (eqBool (.int a t1) (.int c t3)) Q' E' s' := fun h => PySem.SeqAt.EqAt.int_int _ _ _ _ _ _ _ _ h
  have E2 : ∀ {A' : Around} {E' : Value → Shared → Prop} {Q' : Bool → Shared → Prop} {s' : Shared}, Q' (b == e) s' → wpAny (model prog w) A' (eqBool (.str b t2) (.str e t4)) Q' E' s' := fun h => PySem.SeqAt.EqAt.str_str _ _ _ _ _ _ _ _ h
  wp_walk using Looks.at L5, wpAny_loadPart' ho1, wpAny_loadPart' ho2, E1
  cases hac : (a == c) with
  | false =>
    have hd : decide (a = c) = false := by rw [← hac]; rfl
    rw [hd] at h
    wp_walk
    exact h
  | true =>
    have hd : decide (a = c) = true := by rw [← hac]; rfl
    rw [hd] at h
    wp_walk using E2
    cases hbe : (b == e) with
    | false =>
      have hd2 : decide (b = e) = false := decide_eq_false (fun q => by rw [q] at hbe; simp at hbe)
      rw [hd2] at h
      wp_walk
      exact h
    | true =>
      have hd2 : decide (b = e) = true := decide_eq_true (beq_iff_eq.mp hbe)
      rw [hd2] at h
      wp_walk
      exact h

theorem gr_eq (hu : A.units < cLine) (X : K.In s.heap) (h1 : K.lookup G1 = some ⟨.ref 139, some d1, .seq #[.int a t1, .str b t2] n1, sl⟩) (h2 : K.lookup G2 = some ⟨.ref 139, some d2, .seq #[.int c t3, .str e t4] n2, sl2⟩)
    (hsub : subIn K (.ref 139) (.type "tuple") = some true) (hs : findIn K (.ref 139) "__eq__" = some (some (.builtin "tuple.__eq__"))) (h : Q (.bool (decide (a = c) && decide (b = e))) s) :
    wpAny (model prog w) A (richCompare .Eq (.ref G1) (.ref G2)) Q E s := by
  have ho1 := X _ _ h1
  have ho2 := X _ _ h2
  have L3 : Looks (model prog w) s.heap (typeOf (.ref G1)) (.ref 139) := (Looks.ld ho1).andThen .now
  have L4 : Looks (model prog w) s.heap (typeOf (.ref G2)) (.ref 139) := (Looks.ld ho2).andThen .now
  have LF := looks_findIn (M := model prog w) X hs
  have one : wpAny (model prog w) A (tryCompare (.ref G1) (cmpInfo .Eq).2.1 (.ref G2)) (fun r s' => ∃ v, r = some v ∧ Q v s') E s := by
    unfold tryCompare
    simp only [callSpecialIfBound?, bindSpecialIfBound?]
    refine wpAny_bind (wpAny_holding (wpAny_bind (wpAny_bind (wpAny_bind (L3.here (LF.here ?_))))))
    refine wpAny_bind (wpAny_askSetting (wpAny_ite ?_))
    have fin : wpAny (model prog w) A (call (.builtin "tuple.__eq__") ([.ref G1] ++ [.ref G2]) >>= fun v => pure (some v)) (fun a s' => wpAny (model prog w) A (match a with | some .notImplemented | none => pure none | some v => pure (some v)) (fun r s' => ∃ v, r = some v ∧ Q v s') E s') E s := by
      refine wpAny_bind (wpAny_call (gr_eq_body X h1 h2 hsub ?_))
      exact wpAny_pure (wpAny_pure ⟨_, rfl, h⟩)
    rw [slot_tuple_eq.bind]
    split
    · exact wpAny_bind (wpAny_pure (wpAny_pure fin))
    · exact wpAny_tryCatch (wpAny_bind (wpAny_pure (wpAny_pure fin)))
  unfold richCompare
  simp only [oneThing_ref]
  refine wpAny_holding (wpAny_bind (wpAny_cRoomFor hu ?_))
  refine wpAny_bind (L3.here (wpAny_bind (L4.here ?_)))
  rw [if_neg (by simp)]
  refine wpAny_bind (wpAny_pure ?_)
  simp only [Bool.false_eq_true, if_false]
  refine wpAny_bind (wpAny_mono one (fun r s' z => ?_) fun _ _ e => e)
  obtain ⟨v, rfl, hq⟩ := z
  exact wpAny_pure hq
end

/-! ### N2 -/
section
variable {prog : Program} {w : World} {A : Around} {E : Value → Shared → Prop} {Q : Value → Shared → Prop} {s : Shared} {K : Frag} {h₀ : Heap} {L : Addr} {m : SMap} {news : Led} {x y : Addr} {k j : Nat} {am ti am' ti' : Int} {sp sp' : Str} {expr : Bool}
theorem cl_gran (KD : KindF K) (hk : k < 6) (F : Fr h₀ L s.heap m) (X₀ : K.In h₀) (h : Q (.ref (grA k)) { s with toks := s.toks + 1 }) :
    wpAny (model prog w) A (getAttr (.ref (clsA k)) "GRANULARITY" expr) Q E s := cls_val F X₀ (KD.clsType k hk) (KD.clsReads k hk) (KD.clsGran k hk) rfl h
theorem it_isA (KD : KindF K) (hk : k < 6) (F : Fr h₀ L s.heap m) (X₀ : K.In h₀) (N : News h₀ L s.heap news) (I : ItemAt news x k am ti sp) (h : Q (.bool true) s) : wpAny (model prog w) A (call (.builtin "isinstance") [.ref x, .ref 205]) Q E s := by
  obtain ⟨dx, h1, h2, h3, t1, t2, t3, t4, t5, t6, n, a, b⟩ := I
  exact isi_call (X₀.keeps F.keep) (fun M => InstAt.type (InstAt.of_news N a b)) (KD.isA k hk) (by intro e; cases e) h
theorem kinds_one (hk : k < 6) (hj : j < 6) : (decide (secs k = secs j) && decide (nm k = nm j)) = decide (k = j) := by
  have hs : ∀ k, k < 6 → k = 0 ∨ k = 1 ∨ k = 2 ∨ k = 3 ∨ k = 4 ∨ k = 5 := by omega
  rcases hs k hk with rfl | rfl | rfl | rfl | rfl | rfl <;> rcases hs j hj with rfl | rfl | rfl | rfl | rfl | rfl <;> first | (simp; done) | (simp [secs]; done)
theorem gr_cmp (KD : KindF K) (hk : k < 6) (hj : j < 6) (hu : A.units < cLine) (F : Fr h₀ L s.heap m) (X₀ : K.In h₀) (h : Q (.bool (decide (k = j))) s) : wpAny (model prog w) A (compareOp .Eq (.ref (grA k)) (.ref (grA j))) Q E s := by
  obtain ⟨d, n, t1, t2, hG, hdd⟩ := KD.look k hk
  obtain ⟨d', n', t1', t2', hG', hdd'⟩ := KD.look j hj
  exact cmp_ofEq (gr_eq hu (X₀.keeps F.keep) hG hG' KD.gSub KD.gEq (by rw [kinds_one hk hj]; exact h))
end
section
variable (prog : Program) (w : World) (K : Frag) (p : Program) (lo : List Str) (mean : ExcName → Option Value) (mg mb : SMap)
def chkB (x : Str) (k : Nat) : Bool := decide (Txt.lower x = nm k) || decide (Txt.lower x = nm k ++ Str.ofString "s")
def CChk : Prop := ∀ (news : Led) (k : Nat) (x : Str) (t : Tok), k < 6 → x.length ≤ 20 → Con 40 400 prog w K p lo mean mg mb (.ref 164) [.ref (clsA k), .str x t] news (fun r tl => tl = [] ∧ r = .bool (chkB x k))
def CEq : Prop := ∀ (news : Led) (x y : Addr) (k j : Nat) (am ti am' ti' : Int) (sp sp' : Str), k < 6 → j < 6 → ItemAt news x k am ti sp → ItemAt news y j am' ti' sp' →
  Con 40 400 prog w K p lo mean mg mb (.ref 188) [.ref x, .ref y] news (fun r tl => tl = [] ∧ r = .bool (decide (am = am') && decide (k = j) && decide (ti = ti')))
def CEqS : Prop := ∀ (news : Led) (x : Addr) (z : Str) (t : Tok), Con 40 400 prog w K p lo mean mg mb (.ref 188) [.ref x, .str z t] news (fun r tl => tl = [] ∧ r = .bool false)
def CEqT : Prop := ∀ (news : Led) (x T : Addr) (vs : List Value) (n : Nat), (T, ({ cls := .type "tuple", data := .seq vs.toArray n } : Obj)) ∈ news → Con 40 400 prog w K p lo mean mg mb (.ref 188) [.ref x, .ref T] news (fun r tl => tl = [] ∧ r = .bool false)
def CLt : Prop := ∀ (news : Led) (x y : Addr) (k j : Nat) (am ti am' ti' : Int) (sp sp' : Str), k < 6 → j < 6 → ItemAt news x k am ti sp → ItemAt news y j am' ti' sp' →
  Con 40 400 prog w K p lo mean mg mb (.ref 202) [.ref x, .ref y] news (fun r tl => tl = [] ∧ r = .bool (decide (secs k < secs j)))
end

/-! ### N3 -/
abbrev Above (news tl : Led) : Prop := ∀ q ∈ news, ∀ p ∈ tl, q.1 < p.1
theorem above1 {a : Addr} {o : Obj} {news : Led} (h : ∀ p ∈ news, p.1 < a) : Above news [(a, o)] := fun q hq p hp => by rw [List.mem_singleton.mp hp]; exact h q hq
/-- what stands for a multiple, and how many times it is -/
def MulV (v : Value) (ti : Int) : Prop := (v = .none ∧ ti = 1) ∨ ∃ i t, v = .int i t ∧ ((i = 0 ∧ ti = 1) ∨ (i = ti ∧ 1 ≤ ti ∧ ti ≤ 30))
theorem MulV.one {v : Value} {a b : Int} (h : MulV v a) (k : MulV v b) : a = b := by
  rcases h with ⟨rfl, rfl⟩ | ⟨i, t, rfl, h⟩
  · rcases k with ⟨_, rfl⟩ | ⟨i, t, e, _⟩
    · rfl
    · cases e
  · rcases k with ⟨e, _⟩ | ⟨i', t', e, k⟩
    · cases e
    · cases e; omega
theorem MulV.le {v : Value} {a : Int} (h : MulV v a) : 1 ≤ a ∧ a ≤ 30 := by
  rcases h with ⟨rfl, rfl⟩ | ⟨i, t, rfl, h⟩ <;> omega
def PlainAt (news : Led) (T : Addr) (k : Nat) (am : Int) (v : Value) (ti : Int) (sp : Str) : Prop :=
  ∃ t1 t2 t3 n, (T, ({ cls := .type "tuple", data := .seq #[.int (k : Int) t1, .int am t2, v, .str sp t3] n } : Obj)) ∈ news ∧ k < 6 ∧ 0 ≤ am ∧ am ≤ 2 ∧ MulV v ti ∧ sp.length ≤ 10
def RowAt (news : Led) (T : Addr) (v : Value) (x : Str) : Prop := ∃ t n, (T, ({ cls := .type "tuple", data := .seq #[v, .str x t] n } : Obj)) ∈ news ∧ SafeV v x
theorem PlainAt.mono {news news' : Led} {T : Addr} {k : Nat} {am : Int} {v : Value} {ti : Int} {sp : Str} (h : PlainAt news T k am v ti sp) (hs : ∀ p ∈ news, p ∈ news') : PlainAt news' T k am v ti sp := by
  obtain ⟨t1, t2, t3, n, a, b⟩ := h; exact ⟨t1, t2, t3, n, hs _ a, b⟩
theorem RowAt.mono {news news' : Led} {T : Addr} {v : Value} {x : Str} (h : RowAt news T v x) (hs : ∀ p ∈ news, p ∈ news') : RowAt news' T v x := by
  obtain ⟨t, n, a, b⟩ := h; exact ⟨t, n, hs _ a, b⟩
def GrainsAt (tl : Led) (l : Addr) : Prop := ∃ vs n, (l, ({ cls := .type "list", data := .seq (List.toArray vs) n } : Obj)) ∈ tl ∧ vs.length = 6 ∧
  ∀ k, k < 6 → ∃ T t1 t2 n', vs[k]? = some (.ref T) ∧ (T, ({ cls := .type "tuple", data := .seq #[.str (nm k) t1, .int (secs k) t2] n' } : Obj)) ∈ tl
/-- the words that the law asks of, and none above twenty signs -/
def WordsAt (tl : Led) (l : Addr) : Prop := ∃ vs n, (l, ({ cls := .type "list", data := .seq (List.toArray vs) n } : Obj)) ∈ tl ∧ ∀ v ∈ vs, ∃ (x : Str) (t : Tok), v = .str x t ∧ x.length ≤ 20
section
variable (prog : Program) (w : World) (K : Frag) (p : Program) (lo : List Str) (mean : ExcName → Option Value) (mg mb : SMap)
def CGrains : Prop := ∀ (news : Led), Con 40 400 prog w K p lo mean mg mb (.ref 318) [] news (fun r tl => Above news tl ∧ ∃ l, r = .ref l ∧ GrainsAt tl l)
def CWords : Prop := ∀ (news : Led), Con 40 400 prog w K p lo mean mg mb (.ref 325) [] news (fun r tl => Above news tl ∧ ∃ l, r = .ref l ∧ WordsAt tl l)
def CPlain : Prop := ∀ (news : Led) (n : Int) (t : Tok), Con 40 400 prog w K p lo mean mg mb (.ref 339) [.int n t] news (fun r tl => Above news tl ∧ ∃ T k am v ti sp, r = .ref T ∧ PlainAt tl T k am v ti sp)
def CIdent : Prop := ∀ (news : Led) (n : Int) (t : Tok), Con 40 400 prog w K p lo mean mg mb (.ref 346) [.int n t] news (fun r tl => Above news tl ∧ ∃ T v x, r = .ref T ∧ RowAt tl T v x)
def CItem : Prop := ∀ (news : Led) (k : Nat) (am : Int) (v : Value) (ti : Int) (sp : Str) (t1 t2 t3 : Tok), k < 6 → 0 ≤ am → am ≤ 2 → MulV v ti → sp.length ≤ 10 →
  Con 60 600 prog w K p lo mean mg mb (.ref 332) [.int (k : Int) t1, .int am t2, v, .str sp t3] news (fun r tl => Above news tl ∧ ∃ x, r = .ref x ∧ ItemAt tl x k am ti sp)
end
theorem news_cut {h₀ h : Heap} {L : Addr} {A B C : Led} (N : News h₀ L h C) (hA : ∀ p ∈ A, p ∈ C) (hB : ∀ p ∈ B, p ∈ C) : News h₀ L h (A ++ B) := fun p hp => N p ((List.mem_append.mp hp).elim (hA p) (hB p))

theorem item_any {prog : Program} {w : World} {A : Around} {E : Value → Shared → Prop} {Q : Value → Shared → Prop} {s : Shared} {value slice : PySem.Expr} {l : Addr} {vs : List Value} {k : Int} {u : Tok} (hl : s.heap.IsList l vs.toArray) (h0 : 0 ≤ k) (h1 : k < (vs.length : Int)) (h2 : vs.length < 1000)
    (h : ∀ v, vs[k.toNat]? = some v → Q v s)
    (hs : subscripted slice false (.ref l) (.int k u) = operate [.ref l, .int k u] (getItem (.ref l) (.int k u)) := by with_unfolding_all rfl) :
    wpAny (model prog w) A (subscriptTail value slice (.ref l) (.int k u)) Q E s := by
  have hlt : k.toNat < vs.length := by omega
  exact tail_any hl.typeIs slot_list_getitem.lookup (wpAny_getItem_list hl h0 (by omega) (by simpa using List.getElem?_eq_getElem hlt) (h _ (List.getElem?_eq_getElem hlt))) hs
theorem above_nil {news : Led} : Above news [] := fun _ _ _ h => nomatch h
theorem above_cons {a : Addr} {o : Obj} {news tl : Led} (h : ∀ p ∈ news, p.1 < a) (k : Above news tl) : Above news ((a, o) :: tl) := fun q hq p hp => by
  rcases List.mem_cons.mp hp with rfl | hp
  · exact h q hq
  · exact k q hq p hp
theorem fmod_pos {a b : Int} (h : 0 < b) : 0 ≤ a.fmod b ∧ a.fmod b < b := ⟨Int.fmod_nonneg_of_pos a h, Int.fmod_lt_of_pos a h⟩
theorem id_int (n : Int) : (n.fmod (10 ^ Int.toNat 30) - 10 ^ Int.toNat 9).natAbs < 10 ^ 31 := by
  have h := fmod_pos (a := n) (b := 10 ^ Int.toNat 30) (by decide)
  have e1 : (10 : Int) ^ Int.toNat 30 = 1000000000000000000000000000000 := by decide
  have e2 : (10 : Int) ^ Int.toNat 9 = 1000000000 := by decide
  have e3 : (10 : Nat) ^ 31 = 10000000000000000000000000000000 := by decide
  rw [e1] at h ⊢
  rw [e2, e3]
  omega
theorem id_text (n : Int) : (Str.ofString "a" ++ Str.ofString (toString (n.fmod 7))).length ≤ 100 := by
  have h := fmod_pos (a := n) (b := 7) (by decide)
  have e := int_text_length_le10 (a := n.fmod 7) (k := 2) (by decide) (by have e3 : (10 : Nat) ^ 2 = 100 := by decide
                                                                          rw [e3]; omega)
  rw [Str.length_append, PySem.ofString_length, PySem.ofString_length]
  have : "a".length = 1 := by decide
  omega
theorem id_bytes {n : Int} (t : Tok) : SafeV (.bytes (byteArr [65 + n.fmod 26, 47]) t) (Str.mk #[(65 + n.fmod 26).toNat, 47]) := by
  have h := fmod_pos (a := n) (b := 26) (by decide)
  exact SafeV.bytes (65 + n.fmod 26).toNat t (by omega) (by omega)

theorem plain_end {D : Addr} {x y : Int} {t1 t2 t3 t4 t5 t6 t7 t8 t9 : Tok} {v1 v2 : Value} {i j n : Nat} (h1 : [Value.none, .int 0 t3, .int 1 t4, .int 2 t5, .int 30 t6][i]? = some v1)
    (h2 : [Value.str (Str.ofString "LIMITER") t7, .str (Str.ofString "q/") t8, .str (Str.ofString "") t9][j]? = some v2) :
    ∃ T k am v ti sp, Value.ref D = .ref T ∧ PlainAt [(D, ({ cls := .type "tuple", data := .seq #[.int (x.fmod 6) t1, .int (y.fmod 3) t2, v1, v2] n } : Obj))] T k am v ti sp := by
  have hx := fmod_pos (a := x) (b := 6) (by decide)
  have hy := fmod_pos (a := y) (b := 3) (by decide)
  have hk : x.fmod 6 = ((x.fmod 6).toNat : Int) := by omega
  have hm : ∃ ti, MulV v1 ti := by
    have := List.mem_of_getElem? h1
    simp only [List.mem_cons, List.not_mem_nil, or_false] at this
    rcases this with rfl | rfl | rfl | rfl | rfl
    · exact ⟨1, .inl ⟨rfl, rfl⟩⟩
    · exact ⟨1, .inr ⟨_, _, rfl, .inl ⟨rfl, rfl⟩⟩⟩
    · exact ⟨1, .inr ⟨_, _, rfl, .inr ⟨rfl, by decide, by decide⟩⟩⟩
    · exact ⟨2, .inr ⟨_, _, rfl, .inr ⟨rfl, by decide, by decide⟩⟩⟩
    · exact ⟨30, .inr ⟨_, _, rfl, .inr ⟨rfl, by decide, by decide⟩⟩⟩
  have hs : ∃ sp t, v2 = .str sp t ∧ sp.length ≤ 10 := by
    have := List.mem_of_getElem? h2
    simp only [List.mem_cons, List.not_mem_nil, or_false] at this
    rcases this with rfl | rfl | rfl
    · exact ⟨_, _, rfl, by decide +kernel⟩
    · exact ⟨_, _, rfl, by decide +kernel⟩
    · exact ⟨_, _, rfl, by decide +kernel⟩
  obtain ⟨ti, hm⟩ := hm
  obtain ⟨sp, t, rfl, hs⟩ := hs
  refine ⟨D, (x.fmod 6).toNat, y.fmod 3, v1, ti, sp, rfl, t1, t2, t, n, ?_, by omega, hy.1, by omega, hm, hs⟩
  rw [← hk]
  exact .head _

/-! ### N4 -/
theorem tup_K0 {K : Frag} {h : Heap} {T : Addr} {its : Array Value} {n : Nat} {d : Option Addr} {sl : Array (Option Value)} (X : K.In h) (e : K.lookup T = some ⟨.type "tuple", d, .seq its n, sl⟩) : h.IsTuple T its := ⟨_, X _ _ e, rfl, _, rfl⟩
structure KindG (K : Frag) : Prop where
  setattr : ∀ k, k < 6 → findIn K (.ref (clsA k)) "__setattr__" = some (some (.builtin "object.__setattr__"))
  over : ∀ k, k < 6 → plainOver K (clsA k) = true
  tAm : ∀ k, k < 6 → takerIn K (clsA k) "amount" = some none
  tMu : ∀ k, k < 6 → takerIn K (clsA k) "multiples" = some none
  tNs : ∀ k, k < 6 → takerIn K (clsA k) "namespace" = some none
  hd : ∀ k, k < 6 → hasDictIn K (clsA k) = true
  make : ∀ k, k < 6 → makesIn K (clsA k) = true
  init : ∀ k, k < 6 → findIn K (.ref (clsA k)) "__init__" = some (some (.ref 157))
  fInit : isFn K (.ref 157) = true
/-- one item's own dict, beside what stands -/
theorem upd_own {x dx : Addr} {ox o o' : Obj} {news : Led} (h1 : ∀ p ∈ news, p.1 < dx) (h2 : dx < x) : Upd dx o o' ((x, ox) :: (dx, o) :: news) ((x, ox) :: (dx, o') :: news) :=
  .tail (Ne.symm (Nat.ne_of_lt h2)) (.head fun p hp => Nat.ne_of_lt (h1 p hp))

def CInit (prog : Program) (w : World) (K : Frag) (p : Program) (lo : List Str) (mean : ExcName → Option Value) (mg mb : SMap) : Prop :=
  ∀ (news : Led) (x dx : Addr) (k : Nat) (am : Int) (v : Value) (ti : Int) (sp : Str) (t1 t2 : Tok), k < 6 → MulV v ti → (∀ p ∈ news, p.1 < dx) → dx < x →
  ∀ (dp un : Nat) (gd : Option (List Code)) (cn : Str) (cs : Scope) (a : Addr) (ccd : Value) (cl : List (Str × Addr)) (outer : List Env) (A₀ : Around) (base h₀ : Heap) (L : Addr) (m : SMap) (s : Shared) (R : Result → Shared → Prop),
    Below A₀ base outer h₀ → Fr h₀ L s.heap m → K.In h₀ → News h₀ L s.heap ((x, instObj (clsA k) dx) :: (dx, dictOf [] 0) :: news) → Top p lo mean mg mb h₀ → cs.kind = .function → dp + 40 < recursionLimit → un + 400 < cLine →
    (∀ es n h' tk', Fr h₀ L h' m → News h₀ L h' ([(x, instObj (clsA k) dx), (dx, dictOf es n)] ++ news) → ItemAt [(x, instObj (clsA k) dx), (dx, dictOf es n)] x k am ti sp → R (.ok (.ret .none)) { s with heap := h', toks := tk' }) →
    codeAny (model prog w) (ktrTop dp un gd cn cs L a ccd cl outer) (.call (.ref 157) ⟨[.ref x, .int am t1, v, .str sp t2], []⟩) R s
theorem item_of {x dx : Addr} {k : Nat} {am ti : Int} {sp : Str} {h1 h2 h3 : Int} {t1 t2 t3 t4 t5 t6 : Tok} {n : Nat} : ItemAt [(x, instObj (clsA k) dx), (dx, dictOf [⟨h1, .str (Str.ofString "namespace") t1, .str sp t2⟩, ⟨h2, .str (Str.ofString "amount") t3, .int am t4⟩, ⟨h3, .str (Str.ofString "multiples") t5, .int ti t6⟩] n)] x k am ti sp :=
  ⟨dx, h1, h2, h3, t1, t2, t3, t4, t5, t6, n, .head _, .tail _ (.head _)⟩

section
variable {prog : Program} {w : World} {K : Frag} {p : Program} {lo : List Str} {mean : ExcName → Option Value} {mg mb : SMap} {dp un : Nat} {gd : Option (List Code)} {cn : Str} {cs : Scope} {a : Addr} {ccd : Value} {cl : List (Str × Addr)} {outer : List Env} {A₀ : Around} {base h₀ : Heap} {L : Addr} {m : SMap} {s : Shared} {Q E : Value → Shared → Prop} {news : Led}
theorem it_make (k : Nat) {am : Int} {v : Value} {ti : Int} {sp : Str} {t1 t2 : Tok} (c : CInit prog w K p lo mean mg mb) (KG : KindG K) (hm : MulV v ti) (hk : k < 6)
    (F : Fr h₀ L s.heap m) (X : K.In h₀) (N : News h₀ L s.heap news) (B : Below A₀ base outer h₀) (T : Top p lo mean mg mb h₀) (hcs : cs.kind = .function) (hd : dp + 50 < recursionLimit) (hu : un + 500 < cLine)
    (h : ∀ x tl h' tk', Fr h₀ L h' m → News h₀ L h' (tl ++ news) → Above news tl → ItemAt tl x k am ti sp → Q (.ref x) { s with heap := h', toks := tk' }) :
    wpAny (model prog w) (ktrTop dp un gd cn cs L a ccd cl outer) (call (.ref (clsA k)) [.int am t1, v, .str sp t2]) Q E s := by
  refine call_cls F X N (KG.make k hk) (KG.init k hk) (beq_iff_eq.mpr (beq_iff_eq.mp KG.fInit)) ?_
  intro x dx h' F' N' l1 l2
  refine c news x dx k am v ti sp t1 t2 hk hm l1 l2 _ _ _ _ _ _ _ _ _ _ _ _ _ _ _ _ B F' X N' T hcs ?_ ?_ ?_
  · show dp + 1 + 40 < recursionLimit; omega
  · show un + 1 + 400 < cLine; omega
  · intro es n h'' tk' F'' N'' I
    refine ⟨rfl, ?_⟩
    exact h x _ _ _ F'' N'' (above_cons (fun p hp => Nat.lt_trans (l1 p hp) l2) (above_cons l1 above_nil)) I
end

section
variable (prog : Program) (w : World) (K : Frag) (p : Program) (lo : List Str) (mean : ExcName → Option Value) (mg mb : SMap)
def CKey0 : Prop := ∀ (news : Led) (x : Addr) (k : Nat) (am ti : Int) (sp : Str), k < 6 → 0 ≤ am → am ≤ 2 → 0 ≤ ti → ti ≤ 30 → sp.length ≤ 10 → ItemAt news x k am ti sp →
  Con 40 400 prog w K p lo mean mg mb (.ref 181) [.ref x] news (fun r tl => tl = [] ∧ ∃ t, r = .str (keyT sp [] am ti k) t)
end

structure AllC (prog : Program) (w : World) (K : Frag) (p : Program) (lo : List Str) (mean : ExcName → Option Value) (mg mb : SMap) : Prop where
  kd : KindF K
  kg : KindG K
  sec : CSec prog w K p lo mean mg mb
  nam : CNam prog w K p lo mean mg mb
  safe : CSafe prog w K p lo mean mg mb
  exp : CExp prog w K p lo mean mg mb
  key : CKey prog w K p lo mean mg mb
  key0 : CKey0 prog w K p lo mean mg mb
  chk : CChk prog w K p lo mean mg mb
  eq : CEq prog w K p lo mean mg mb
  eqS : CEqS prog w K p lo mean mg mb
  eqT : CEqT prog w K p lo mean mg mb
  lt : CLt prog w K p lo mean mg mb
  grains : CGrains prog w K p lo mean mg mb
  words : CWords prog w K p lo mean mg mb
  plain : CPlain prog w K p lo mean mg mb
  ident : CIdent prog w K p lo mean mg mb
  item : CItem prog w K p lo mean mg mb
theorem AllC.at {prog : Program} {w : World} {K : Frag} {p : Program} {lo : List Str} {mean : ExcName → Option Value} {mg mb : SMap} {h : Heap} (c : ∀ p lo mean mg mb, AllC prog w K p lo mean mg mb) (_ : Top p lo mean mg mb h) : AllC prog w K p lo mean mg mb := c p lo mean mg mb

/-! ### P -/
theorem ints_int {vs : List Value} {ns : List Int} (h : IntsAre vs ns) : ∀ v ∈ vs, ∃ n t, v = .int n t := by
  induction h with
  | nil => intro v hv; cases hv
  | cons n t _ ih =>
    intro v hv
    rcases List.mem_cons.mp hv with rfl | hv
    · exact ⟨n, t, rfl⟩
    · exact ih v hv
theorem two_len {α : Type} (l : List α) (a b : α) : (List.take (Int.toNat 2) (l ++ [a, b])).length = 2 := by
  rw [List.length_take, List.length_append]
  show min 2 (l.length + 2) = 2
  omega
theorem six_len {α : Type} (l : List α) (n : Nat) : (List.take (min (Int.toNat 8) n - Int.toNat 2) l).length ≤ 6 := by
  rw [List.length_take]
  have : Int.toNat 8 = 8 := rfl
  have : Int.toNat 2 = 2 := rfl
  omega
def PlainG (_ y : Value) (nw : Led) : Prop := ∃ T k am v ti sp, y = .ref T ∧ PlainAt nw T k am v ti sp
theorem PlainG.mono {v y : Value} {n n' : Led} (hs : ∀ p ∈ n, p ∈ n') (h : PlainG v y n) : PlainG v y n' := by
  obtain ⟨T, k, am, v', ti, sp, e, h⟩ := h; exact ⟨T, k, am, v', ti, sp, e, h.mono hs⟩
def ItemG (v y : Value) (nw : Led) : Prop := ∃ T x k am v' ti sp, v = .ref T ∧ y = .ref x ∧ PlainAt nw T k am v' ti sp ∧ ItemAt nw x k am ti sp
theorem ItemG.mono {v y : Value} {n n' : Led} (hs : ∀ p ∈ n, p ∈ n') (h : ItemG v y n) : ItemG v y n' := by
  obtain ⟨T, x, k, am, v', ti, sp, e1, e2, h1, h2⟩ := h; exact ⟨T, x, k, am, v', ti, sp, e1, e2, h1.mono hs, h2.mono hs⟩
def RowG (_ y : Value) (nw : Led) : Prop := ∃ T v x, y = .ref T ∧ RowAt nw T v x
theorem RowG.mono {v y : Value} {n n' : Led} (hs : ∀ p ∈ n, p ∈ n') (h : RowG v y n) : RowG v y n' := by
  obtain ⟨T, v', x, e, h⟩ := h; exact ⟨T, v', x, e, h.mono hs⟩
theorem paired_right {P : Value → Value → Prop} {vs ys : List Value} (h : Paired P vs ys) : ∀ y ∈ ys, ∃ v, P v y := by
  induction h with
  | nil => intro y hy; cases hy
  | cons hab _ ih =>
    intro y hy
    rcases List.mem_cons.mp hy with rfl | hy
    · exact ⟨_, hab⟩
    · exact ih y hy
theorem paired_two {P : Value → Value → Prop} {vs ys : List Value} (h : Paired P vs ys) (e : vs.length = 2) : ∃ v0 v1 y0 y1, vs = [v0, v1] ∧ ys = [y0, y1] ∧ P v0 y0 ∧ P v1 y1 := by
  cases h with
  | nil => cases e
  | cons hab h =>
    cases h with
    | nil => cases e
    | cons hcd h =>
      cases h with
      | nil => exact ⟨_, _, _, _, rfl, rfl, hab, hcd⟩
      | cons _ _ => simp at e
theorem RowAt.one {h₀ h : Heap} {L : Addr} {news : Led} {T : Addr} {v v' : Value} {x x' : Str} (N : News h₀ L h news) (a : RowAt news T v x) (b : RowAt news T v' x') : v = v' ∧ x = x' := by
  obtain ⟨t, n, a, _⟩ := a
  obtain ⟨t', n', b, _⟩ := b
  have e := (N _ a).1.symm.trans (N _ b).1
  simp only [Option.some.injEq, Obj.mk.injEq, Data.seq.injEq, Array.mk.injEq, List.cons.injEq, Value.str.injEq] at e
  exact ⟨e.2.2.1.1.1, e.2.2.1.1.2.1.1⟩
abbrev Row := Addr × Value × Str
theorem rows_of {P : Addr → Value → Str → Prop} : ∀ {ys : List Value}, (∀ y ∈ ys, ∃ T v x, y = .ref T ∧ P T v x) → ∃ R : List Row, ys = R.map (fun r => Value.ref r.1) ∧ ∀ r ∈ R, P r.1 r.2.1 r.2.2
  | [], _ => ⟨[], rfl, fun _ h => nomatch h⟩
  | y :: ys, h => by
    obtain ⟨T, v, x, e, p⟩ := h y (.head _)
    obtain ⟨R, e', q⟩ := rows_of (ys := ys) fun y hy => h y (.tail _ hy)
    refine ⟨(T, v, x) :: R, by rw [e, e']; rfl, fun r hr => ?_⟩
    rcases List.mem_cons.mp hr with rfl | hr
    · exact p
    · exact q r hr
theorem grains_item {prog : Program} {w : World} {A : Around} {E : Value → Shared → Prop} {Q : Value → Shared → Prop} {s : Shared} {h₀ : Heap} {L : Addr} {value slice : PySem.Expr} {l : Addr} {k : Nat} {u : Tok} {tl news : Led}
    (N : News h₀ L s.heap (tl ++ news)) (g : GrainsAt tl l) (hk : k < 6)
    (h : ∀ T t1 t2 n', News h₀ L s.heap ((T, ({ cls := .type "tuple", data := .seq #[.str (nm k) t1, .int (secs k) t2] n' } : Obj)) :: news) → Q (.ref T) s)
    (hs : subscripted slice false (.ref l) (.int (k : Int) u) = operate [.ref l, .int (k : Int) u] (getItem (.ref l) (.int (k : Int) u)) := by with_unfolding_all rfl) :
    wpAny (model prog w) A (subscriptTail value slice (.ref l) (.int (k : Int) u)) Q E s := by
  obtain ⟨vs, n, hm, hl, hg⟩ := g
  refine item_any (vs := vs) ⟨_, (N _ (List.mem_append.mpr (.inl hm))).1, rfl, n, rfl⟩ (Int.natCast_nonneg k) (by omega) (by omega) (fun v hv => ?_) hs
  obtain ⟨T, t1, t2, n', e, hT⟩ := hg k hk
  rw [Int.toNat_natCast, e] at hv
  cases hv
  exact h T t1 t2 n' fun p hp => by
    rcases List.mem_cons.mp hp with rfl | hp
    · exact N _ (List.mem_append.mpr (.inl hT))
    · exact N _ (List.mem_append.mpr (.inr hp))
section
variable {prog : Program} {w : World} {K : Frag} {p : Program} {lo : List Str} {mean : ExcName → Option Value} {mg mb : SMap}
theorem CKey.use {news : Led} {x T : Addr} {k : Nat} {am ti : Int} {sp : Str} {vs : List Value} {ts : List Str} {n : Nat} (c : CKey prog w K p lo mean mg mb) (I : ItemAt news x k am ti sp) (hT : (T, ({ cls := .type "tuple", data := .seq vs.toArray n } : Obj)) ∈ news) (hp : Paired SafeV vs ts)
    (hk : k < 6) (h1 : 0 ≤ am) (h2 : am ≤ 2) (h3 : 0 ≤ ti) (h4 : ti ≤ 30) (h5 : sp.length ≤ 10) (h6 : vs.length ≤ 6) :
    Con 40 400 prog w K p lo mean mg mb (.ref 181) [.ref x, .ref T] news (fun r tl => tl = [] ∧ ∃ t, r = .str (keyT sp ts am ti k) t) := c news x k am ti sp T vs ts n hk h1 h2 h3 h4 h5 I hT hp h6
theorem CKey0.use {news : Led} {x : Addr} {k : Nat} {am ti : Int} {sp : Str} (c : CKey0 prog w K p lo mean mg mb) (I : ItemAt news x k am ti sp)
    (hk : k < 6) (h1 : 0 ≤ am) (h2 : am ≤ 2) (h3 : 0 ≤ ti) (h4 : ti ≤ 30) (h5 : sp.length ≤ 10) :
    Con 40 400 prog w K p lo mean mg mb (.ref 181) [.ref x] news (fun r tl => tl = [] ∧ ∃ t, r = .str (keyT sp [] am ti k) t) := c news x k am ti sp hk h1 h2 h3 h4 h5 I
end
theorem toks_mono {M : Model} {A : Around} {t : Sem Value} {Q E : Value → Shared → Prop} {s : Shared} (P : Value → Prop) (h1 : wpAny M A t (fun y s' => P y ∧ ∃ tk, s' = { s with toks := tk }) (fun _ _ => False) s) (h2 : ∀ y tk, P y → Q y { s with toks := tk }) : wpAny M A t Q E s :=
  wpAny_mono h1 (fun _ _ h => by obtain ⟨p, tk, e⟩ := h; subst e; exact h2 _ _ p) (fun _ _ h => h.elim)
theorem ne_four {prog : Program} {w : World} {A : Around} {E : Value → Shared → Prop} {Q : Value → Shared → Prop} {s : Shared} {l b : Addr} {a c d : Int} {z : Str} {t1 t2 t3 t4 u1 u2 u3 u4 : Tok}
    (hl : s.heap.IsTuple l #[.int a t1, .int c t2, .str z t3, .int d t4]) (hb : s.heap.IsTuple b #[.int a u1, .int c u2, .str z u3, .int d u4]) (hu : A.units < cLine) (h : Q (.bool false) s) :
    wpAny (model prog w) A (compareOp .NotEq (.ref l) (.ref b)) Q E s := by
  refine cmp_ofNotEq (PySem.SeqAt.RcNeAt.tuples (e := fun _ => true) hl hb hu (fun j h1 h2 => ?_) prog w E Q ?_)
  · match j, h1, h2 with
    | 0, _, _ => exact (by simpa using PySem.SeqAt.EqAt.int_int (A := A.in1) (s := s) a t1 a u1)
    | 1, _, _ => exact (by simpa using PySem.SeqAt.EqAt.int_int (A := A.in1) (s := s) c t2 c u2)
    | 2, _, _ => exact (by simpa using PySem.SeqAt.EqAt.str_str (A := A.in1) (s := s) z t3 z u3)
    | 3, _, _ => exact (by simpa using PySem.SeqAt.EqAt.int_int (A := A.in1) (s := s) d t4 d u4)
    | n + 4, h1, _ => exact absurd h1 (by simp)
  · exact h
section
variable {prog : Program} {w : World} {A : Around} {E : Value → Shared → Prop} {s : Shared} {K : Frag} {h₀ : Heap} {L : Addr} {m : Str → Option Value} {news : Led} {x : Addr} {k : Nat} {am ti : Int} {sp : Str}
theorem it_check {pl : Sem Bool} {Q : Value × List Value → Shared → Prop} {rest : List Value} (KD : KindF K) (hk : k < 6) (F : Fr h₀ L s.heap m) (X₀ : K.In h₀) (N : News h₀ L s.heap news) (I : ItemAt news x k am ti sp)
    (ht : typeIn K (.ref 166) = some (.type "classmethod")) (hgf : specialIn K (.ref 166) "__get__" = some (some (.builtin "classmethod.__get__"))) (hts : takesIn K (.ref 166) = some false) (hp : recIn K 166 "classmethod" = some (.ref 164 :: rest))
    (h : ∀ q h', Fr h₀ L h' m → News h₀ L h' ((q, methodObj (.ref 164) (.ref (clsA k))) :: news) → (∀ r ∈ news, r.1 < q) → Q (.ref q, []) { s with heap := h', toks := s.toks + 1 }) : wpAny (model prog w) A (getMethod (.ref x) "check_granularity_string" pl) Q E s := by
  obtain ⟨dx, h1, h2, h3, t1, t2, t3, t4, t5, t6, n, a, b⟩ := I
  exact kmu_cm F X₀ N (InstAt.of_news N a b) (KD.pgAm k hk) (KD.hd k hk) (KD.mChk k hk) ht hgf hts (by decide +kernel) (by rfl) hp h
end

/-! ### P2 -/
theorem ite_ff {P Q : Prop} (h : Q) : if false = true then P else Q := by rw [if_neg (by decide)]; exact h
theorem ite_tt {P Q : Prop} (h : P) : if true = true then P else Q := by rw [if_pos rfl]; exact h
theorem rows_strs {f : Row → Str} {R' : List Row} : ∀ {R : List Row} {ys : List Value}, Paired (fun v y => ∀ r ∈ R', v = .ref r.1 → ∃ t, y = .str (f r) t) (R.map (fun r => Value.ref r.1)) ys → (∀ r ∈ R, r ∈ R') → StrsAre ys (R.map f)
  | [], _, .nil, _ => .nil
  | r :: R, _, .cons h t, hs => by
    obtain ⟨t', e⟩ := h r (hs r (.head _)) rfl
    subst e
    exact .cons _ _ (rows_strs t fun r hr => hs r (.tail _ hr))
theorem rows_vals {f : Row → Value} {R' : List Row} : ∀ {R : List Row} {ys : List Value}, Paired (fun v y => ∀ r ∈ R', v = .ref r.1 → y = f r) (R.map (fun r => Value.ref r.1)) ys → (∀ r ∈ R, r ∈ R') → ys = R.map f
  | [], _, .nil, _ => rfl
  | r :: R, _, .cons h t, hs => by
    rw [h r (hs r (.head _)) rfl, rows_vals t fun r hr => hs r (.tail _ hr)]
    rfl
theorem rows_safe : ∀ {R : List Row}, (∀ r ∈ R, SafeV r.2.1 r.2.2) → Paired SafeV (R.map (·.2.1)) (R.map (·.2.2))
  | [], _ => .nil
  | r :: _, h => .cons (h r (.head _)) (rows_safe fun r hr => h r (.tail _ hr))
theorem rows_weight : ∀ {R : List Row}, (∀ r ∈ R, SafeV r.2.1 r.2.2) → ((R.map (fun r => Str.ofString "/" ++ r.2.2)).map (·.length)).sum ≤ 101 * R.length
  | [], _ => by simp
  | r :: R, h => by
    have e1 := (h r (.head _)).len
    have e2 := rows_weight (R := R) fun r hr => h r (.tail _ hr)
    have e3 : (Str.ofString "/").length = 1 := by decide +kernel
    simp only [List.map_cons, List.sum_cons, List.length_cons, Str.length_append, e3] at e2 ⊢
    omega
theorem rows_weight2 {R : List Row} (h : ∀ r ∈ R, SafeV r.2.1 r.2.2) (h6 : R.length ≤ 6) : ((R.map (fun r => Str.ofString "/" ++ r.2.2)).map (·.length)).sum + (R.map (fun r => Str.ofString "/" ++ r.2.2)).length ≤ 1048576 := by
  have := rows_weight h
  rw [List.length_map]
  omega
theorem rows_len {R : List Row} (h : ∀ r ∈ R, SafeV r.2.1 r.2.2) (h6 : R.length ≤ 6) : (Txt.join (Str.ofString "") (R.map (fun r => Str.ofString "/" ++ r.2.2))).length ≤ 2000 := by
  have e1 := rows_weight h
  have e6 := StrLaws.join_length_le (Str.ofString "") (R.map (fun r => Str.ofString "/" ++ r.2.2))
  have e7 : (Str.ofString "").length = 0 := by decide +kernel
  rw [txt_join]
  rw [List.length_map, e7] at e6
  omega
theorem emp_app (x : Str) : Str.ofString "" ++ x = x := Str.empty_append x
theorem app_emp (x : Str) : x ++ Str.empty = x := Str.append_empty x
theorem join_slash : ∀ (ts : List Str) (a b c : Str), Str.join (Str.ofString "") (ts.map (Str.ofString "/" ++ ·)) ++ Str.ofString "/" ++ a ++ Str.ofString "/" ++ b ++ Str.ofString "/" ++ c = Str.ofString "/" ++ Str.join (Str.ofString "/") (ts ++ [a, b, c])
  | [], a, b, c => by
    show Str.empty ++ Str.ofString "/" ++ a ++ Str.ofString "/" ++ b ++ Str.ofString "/" ++ c = Str.ofString "/" ++ (a ++ Str.ofString "/" ++ (b ++ Str.ofString "/" ++ c))
    rw [Str.empty_append]
    simp only [Str.append_assoc]
  | x :: ts, a, b, c => by
    have ih := join_slash ts a b c
    have e1 : Str.join (Str.ofString "") ((x :: ts).map (Str.ofString "/" ++ ·)) = Str.ofString "/" ++ x ++ Str.join (Str.ofString "") (ts.map (Str.ofString "/" ++ ·)) := by
      cases ts with
      | nil => exact (app_emp _).symm
      | cons y ts =>
        show Str.ofString "/" ++ x ++ Str.ofString "" ++ _ = _
        rw [Str.append_assoc (Str.ofString "/" ++ x), emp_app]
    have e2 : Str.join (Str.ofString "/") (x :: ts ++ [a, b, c]) = x ++ Str.ofString "/" ++ Str.join (Str.ofString "/") (ts ++ [a, b, c]) := by
      cases ts <;> rfl
    rw [e1, e2]
    simp only [Str.append_assoc] at ih ⊢
    rw [ih]
theorem key_law (sp : Str) (R : List Row) (am ti : Int) (k : Nat) :
    sp ++ Txt.join (Str.ofString "") (R.map (fun r => Str.ofString "/" ++ r.2.2)) ++ Str.ofString "/" ++ txt am ++ Str.ofString "/" ++ txt ti ++ Str.ofString "/" ++ nm k = keyT sp (R.map (·.2.2)) am ti k := by
  have h := join_slash (R.map (·.2.2)) (txt am) (txt ti) (nm k)
  rw [List.map_map] at h
  unfold keyT
  rw [txt_join, txt_join]
  have e : sp ++ Str.ofString "/" ++ Str.join (Str.ofString "/") (R.map (·.2.2) ++ [txt am, txt ti, nm k]) = sp ++ (Str.ofString "/" ++ Str.join (Str.ofString "/") (R.map (·.2.2) ++ [txt am, txt ti, nm k])) := Str.append_assoc _ _ _
  refine Eq.trans ?_ e.symm
  refine Eq.trans ?_ (congrArg (sp ++ ·) h)
  simp only [Str.append_assoc]
  rfl
theorem key_law0 (sp : Str) (am ti : Int) (k : Nat) : sp ++ Str.ofString "/" ++ txt am ++ Str.ofString "/" ++ txt ti ++ Str.ofString "/" ++ nm k = keyT sp [] am ti k := by
  unfold keyT
  rw [txt_join]
  show _ = sp ++ Str.ofString "/" ++ (txt am ++ Str.ofString "/" ++ (txt ti ++ Str.ofString "/" ++ nm k))
  simp only [Str.append_assoc]
theorem sub_mem {α : Type} {a : α} {l nb nw : List α} (hs : ∀ p ∈ l, p ∈ nw) (h : a ∈ nb) (hin : ∀ p ∈ nb, p ∈ l) : a ∈ nw := hs _ (hin _ h)
theorem ne_same {prog : Program} {w : World} {A : Around} {E : Value → Shared → Prop} {Q : Value → Shared → Prop} {s : Shared} {a b : Str} {t u : Tok} (e : a = b) (h : Q (.bool false) s) : wpAny (model prog w) A (compareOp .NotEq (.str a t) (.str b u)) Q E s := by
  subst e
  refine cmp_ofNotEq (PySem.SeqAt.RcNeAt.str_str a t a u prog w E Q ?_)
  rw [beq_self_eq_true]
  exact h
def WordEnd (h₀ : Heap) (L : Addr) (s : Shared) (I : Addr) (it : Obj) (news : Led) (m : SMap) (f : Flow) (s₂ : Shared) : Prop := f = .next ∧ ∃ h' tk', s₂ = { s with heap := h', toks := tk' } ∧ Fr h₀ L h' m ∧ News h₀ L h' ((I, it) :: news)
theorem words_loop {prog : Program} {w : World} {A : Around} {E : Value → Shared → Prop} {s : Shared} {env : Env} {h₀ : Heap} {x : Str} {body : List Stmt} {Q : Flow → Shared → Prop} {I : Addr} {lp : Addr × Obj} {m₀ : SMap} {news : Led} (hlp : lp ∈ news) (off : ∀ p ∈ news, p.1 ≠ I)
    (turn : ∀ (z : Str) (t : Tok) (it : Obj) h tk, z.length ≤ 20 → it.cls = .type "list_iterator" → Fr h₀ env.locals h (fun y => if y = x then some (.str z t) else m₀ y) → News h₀ env.locals h ((I, it) :: news) →
      wpAny (model prog w) A (execs body env) (WordEnd h₀ env.locals s I it news (fun y => if y = x then some (.str z t) else m₀ y)) E { s with heap := h, toks := tk })
    (hz : ∀ o h tk, Fr h₀ env.locals h (fun y => if y = x then o else m₀ y) → News h₀ env.locals h news → Q .next { s with heap := h, toks := tk }) :
    ∀ r, (∀ v ∈ r, ∃ (z : Str) (t : Tok), v = .str z t ∧ z.length ≤ 20) → ListRest prog w A E h₀ env x body Q s I lp r m₀ news := by
  have gen : ∀ r, (∀ v ∈ r, ∃ (z : Str) (t : Tok), v = .str z t ∧ z.length ≤ 20) → ∀ o : Option Value, ListRest prog w A E h₀ env x body Q s I lp r (fun y => if y = x then o else m₀ y) news := by
    intro r
    induction r with
    | nil => intro _ o; exact ListRest.zero fun h tk F N => hz o h tk F N
    | cons v r ih =>
      intro hr o
      obtain ⟨z, t, e, hl⟩ := hr v (.head _)
      subst e
      refine ListRest.succ fun it h tk hit F N => ?_
      have e : (fun y => if y = x then some (Value.str z t) else (if y = x then o else m₀ y)) = (fun y => if y = x then some (Value.str z t) else m₀ y) := funext fun y => by
        by_cases hy : y = x
        · simp [hy]
        · simp [hy]
      rw [e] at F
      refine wpAny_mono (turn z t it h tk hl hit F N) (fun f s₂ hq => ?_) (fun _ _ e => e)
      obtain ⟨e1, h', tk', e2, F2, N2⟩ := hq
      subst e1; subst e2
      exact ⟨h', tk', _, news, rfl, F2, N2, off, hlp, ih (fun v hv => hr v (.tail _ hv)) (some (.str z t))⟩
  intro r hr
  have e : m₀ = fun y => if y = x then m₀ x else m₀ y := funext fun y => by
    by_cases hy : y = x
    · simp [hy]
    · simp [hy]
  rw [e]
  exact gen r hr (m₀ x)

/-! ### P3 -/
def CChkC (prog : Program) (w : World) (K : Frag) (p : Program) (lo : List Str) (mean : ExcName → Option Value) (mg mb : SMap) : Prop :=
  ∀ (news : Led) (k : Nat) (x : Str) (t : Tok), k < 6 → x.length ≤ 20 →
  ∀ (dp un : Nat) (gd : Option (List Code)) (cn : Str) (cs : Scope) (a : Addr) (ccd : Value) (cl : List (Str × Addr)) (outer : List Env) (A₀ : Around) (base h₀ : Heap) (L : Addr) (m : SMap) (s : Shared) (R : Result → Shared → Prop),
    Below A₀ base outer h₀ → Fr h₀ L s.heap m → K.In h₀ → News h₀ L s.heap news → Top p lo mean mg mb h₀ → cs.kind = .function → dp + 40 < recursionLimit → un + 400 < cLine →
    (∀ h' tk', Fr h₀ L h' m → News h₀ L h' news → R (.ok (.ret (.bool (chkB x k)))) { s with heap := h', toks := tk' }) →
    codeAny (model prog w) (ktrTop dp un gd cn cs L a ccd cl outer) (.call (.ref 164) ⟨[.ref (clsA k), .str x t], []⟩) R s
theorem CChkC.at {prog : Program} {w : World} {K : Frag} {p : Program} {lo : List Str} {mean : ExcName → Option Value} {mg mb : SMap} {h : Heap} (c : ∀ p lo mean mg mb, CChkC prog w K p lo mean mg mb) (_ : Top p lo mean mg mb h) : CChkC prog w K p lo mean mg mb := c p lo mean mg mb
section
variable {prog : Program} {w : World} {K : Frag} {p : Program} {lo : List Str} {mean : ExcName → Option Value} {mg mb : SMap} {dp un : Nat} {gd : Option (List Code)} {cn : Str} {cs : Scope} {a : Addr} {ccd : Value} {cl : List (Str × Addr)} {outer : List Env} {A₀ : Around} {base h₀ : Heap} {L : Addr} {m : SMap} {s : Shared} {Q E : Value → Shared → Prop} {news : Led}
theorem chk_meth {q : Addr} {k : Nat} {x : Str} {t : Tok} (c : CChkC prog w K p lo mean mg mb)
    (F : Fr h₀ L s.heap m) (X : K.In h₀) (N : News h₀ L s.heap news) (B : Below A₀ base outer h₀) (T : Top p lo mean mg mb h₀) (hcs : cs.kind = .function) (hd : dp + 40 < recursionLimit) (hu : un + 400 < cLine)
    (hq : (q, methodObj (.ref 164) (.ref (clsA k))) ∈ news) (hk : k < 6) (hx : x.length ≤ 20)
    (h : ∀ h' tk', Fr h₀ L h' m → News h₀ L h' news → Q (.bool (chkB x k)) { s with heap := h', toks := tk' }) :
    wpAny (model prog w) (ktrTop dp un gd cn cs L a ccd cl outer) (call (.ref q) [.str x t]) Q E s :=
  call_meth N hq (c news k x t hk hx _ _ _ _ _ _ _ _ _ _ _ _ _ _ _ _ B F X N T hcs hd hu h)
end
section
variable {prog : Program} {w : World} {A : Around} {E : Value → Shared → Prop} {Q : Value → Shared → Prop} {s : Shared} {K : Frag} {h₀ : Heap} {L : Addr} {m : Str → Option Value} {news : Led} {x y : Addr} {k j : Nat} {am ti am' ti' : Int} {sp sp' : Str}
theorem it_eqS {z : Str} {t : Tok} (KD : KindF K) (hk : k < 6) (F : Fr h₀ L s.heap m) (X₀ : K.In h₀) (N : News h₀ L s.heap news) (I : ItemAt news x k am ti sp) (hu : A.units < cLine)
    (h : wpAny (model prog w) A (call (.ref 188) [.ref x, .str z t]) (W.CmpBack Q) E s) : wpAny (model prog w) A (compareOp .Eq (.ref x) (.str z t)) Q E s := by
  obtain ⟨dx, h1, h2, h3, t1, t2, t3, t4, t5, t6, n, a, b⟩ := I
  exact cmp_ofEq (cmp_K hu F X₀ (InstAt.of_news N a b) (Looks.of_pure rfl) (KD.notFirstS k hk) (KD.mEq k hk) KD.fEq h)
theorem it_eqT {T : Addr} {vs : Array Value} {n' : Nat} (KD : KindF K) (hk : k < 6) (F : Fr h₀ L s.heap m) (X₀ : K.In h₀) (N : News h₀ L s.heap news) (I : ItemAt news x k am ti sp) (hT : (T, ({ cls := .type "tuple", data := .seq vs n' } : Obj)) ∈ news) (hu : A.units < cLine)
    (h : wpAny (model prog w) A (call (.ref 188) [.ref x, .ref T]) (W.CmpBack Q) E s) : wpAny (model prog w) A (compareOp .Eq (.ref x) (.ref T)) Q E s := by
  obtain ⟨dx, h1, h2, h3, t1, t2, t3, t4, t5, t6, n, a, b⟩ := I
  exact cmp_ofEq (cmp_K hu F X₀ (InstAt.of_news N a b) ((Looks.ld (N _ hT).1).andThen .now) (KD.notFirstT k hk) (KD.mEq k hk) KD.fEq h)
theorem it_eqI (KD : KindF K) (hk : k < 6) (hj : j < 6) (F : Fr h₀ L s.heap m) (X₀ : K.In h₀) (N : News h₀ L s.heap news) (I : ItemAt news x k am ti sp) (J : ItemAt news y j am' ti' sp') (hu : A.units < cLine)
    (h : wpAny (model prog w) A (call (.ref 188) [.ref x, .ref y]) (W.CmpBack Q) E s) : wpAny (model prog w) A (compareOp .Eq (.ref x) (.ref y)) Q E s := by
  obtain ⟨dx, h1, h2, h3, t1, t2, t3, t4, t5, t6, n, a, b⟩ := I
  obtain ⟨dx', h1', h2', h3', t1', t2', t3', t4', t5', t6', n', a', b'⟩ := J
  exact cmp_ofEq (cmp_K hu F X₀ (InstAt.of_news N a b) (InstAt.of_news N a' b').type (KD.notFirst k hk j hj) (KD.mEq k hk) KD.fEq h)
theorem it_ltI (KD : KindF K) (hk : k < 6) (hj : j < 6) (F : Fr h₀ L s.heap m) (X₀ : K.In h₀) (N : News h₀ L s.heap news) (I : ItemAt news x k am ti sp) (J : ItemAt news y j am' ti' sp') (hu : A.units < cLine)
    (h : wpAny (model prog w) A (call (.ref 202) [.ref x, .ref y]) (W.CmpBack Q) E s) : wpAny (model prog w) A (compareOp .Lt (.ref x) (.ref y)) Q E s := by
  obtain ⟨dx, h1, h2, h3, t1, t2, t3, t4, t5, t6, n, a, b⟩ := I
  obtain ⟨dx', h1', h2', h3', t1', t2', t3', t4', t5', t6', n', a', b'⟩ := J
  exact cmp_ofLt (cmp_K hu F X₀ (InstAt.of_news N a b) (InstAt.of_news N a' b').type (KD.notFirst k hk j hj) (KD.mLt k hk) KD.fLt h)
end
section
variable {prog : Program} {w : World} {K : Frag} {p : Program} {lo : List Str} {mean : ExcName → Option Value} {mg mb : SMap}
theorem CEq.use {news : Led} {x y : Addr} {k j : Nat} {am ti am' ti' : Int} {sp sp' : Str} (c : CEq prog w K p lo mean mg mb) (I : ItemAt news x k am ti sp) (J : ItemAt news y j am' ti' sp') (hk : k < 6) (hj : j < 6) :
    Con 40 400 prog w K p lo mean mg mb (.ref 188) [.ref x, .ref y] news (fun r tl => tl = [] ∧ r = .bool (decide (am = am') && decide (k = j) && decide (ti = ti'))) := c news x y k j am ti am' ti' sp sp' hk hj I J
theorem CLt.use {news : Led} {x y : Addr} {k j : Nat} {am ti am' ti' : Int} {sp sp' : Str} (c : CLt prog w K p lo mean mg mb) (I : ItemAt news x k am ti sp) (J : ItemAt news y j am' ti' sp') (hk : k < 6) (hj : j < 6) :
    Con 40 400 prog w K p lo mean mg mb (.ref 202) [.ref x, .ref y] news (fun r tl => tl = [] ∧ r = .bool (decide (secs k < secs j))) := c news x y k j am ti am' ti' sp sp' hk hj I J
theorem CEqT.use {news : Led} {x T : Addr} {vs : Array Value} {n : Nat} (c : CEqT prog w K p lo mean mg mb) (hT : (T, ({ cls := .type "tuple", data := .seq vs n } : Obj)) ∈ news) :
    Con 40 400 prog w K p lo mean mg mb (.ref 188) [.ref x, .ref T] news (fun r tl => tl = [] ∧ r = .bool false) := c news x T vs.toList n (by simpa using hT)
end
theorem chk_any {z : Str} {k : Nat} : (chkB z k != [nm k, nm k ++ Str.ofString "s"].any fun x => x == Txt.lower z) = false := by
  have e : ∀ a b : Str, (a == b) = decide (b = a) := fun a b => by
    by_cases h : b = a
    · subst h; simp
    · rw [decide_eq_false h]
      exact beq_eq_false_iff_ne.mpr fun q => h q.symm
  unfold chkB
  simp only [List.any_cons, List.any_nil, Bool.or_false, e, bne_self_eq_false]
theorem secs_lt {k j : Nat} (hk : k < 6) (hj : j < 6) : decide (secs k < secs j) = decide ((k : Int) < (j : Int)) := by
  match k, j, hk, hj with
  | 0, 0, _, _ | 0, 1, _, _ | 0, 2, _, _ | 0, 3, _, _ | 0, 4, _, _ | 0, 5, _, _ => rfl
  | 1, 0, _, _ | 1, 1, _, _ | 1, 2, _, _ | 1, 3, _, _ | 1, 4, _, _ | 1, 5, _, _ => rfl
  | 2, 0, _, _ | 2, 1, _, _ | 2, 2, _, _ | 2, 3, _, _ | 2, 4, _, _ | 2, 5, _, _ => rfl
  | 3, 0, _, _ | 3, 1, _, _ | 3, 2, _, _ | 3, 3, _, _ | 3, 4, _, _ | 3, 5, _, _ => rfl
  | 4, 0, _, _ | 4, 1, _, _ | 4, 2, _, _ | 4, 3, _, _ | 4, 4, _, _ | 4, 5, _, _ => rfl
  | 5, 0, _, _ | 5, 1, _, _ | 5, 2, _, _ | 5, 3, _, _ | 5, 4, _, _ | 5, 5, _, _ => rfl
  | n + 6, _, h, _ => exact absurd h (by omega)
  | _, n + 6, _, h => exact absurd h (by omega)

/-! ### P4 -/
section
variable {prog : Program} {w : World} {A : Around} {E : Value → Shared → Prop} {s : Shared}
theorem sliceApplied_two {sl : Addr} {u : Tok} {Q : Int × Int × Nat → Shared → Prop} (hs : s.heap.IsSliceOf sl .none (.int 2 u) .none) (h : Q ((0 : Int), 1, 2) s) :
    wpAny (model prog w) A (Builtin.Slice.sliceApplied (.ref sl) (pure ((4 : Nat) : Int))) Q E s := by
  obtain ⟨os, hos, hcs, hds⟩ := id hs
  unfold Builtin.Slice.sliceApplied Builtin.Slice.sliceFields
  refine wpAny_bind (wpAny_bind (wpAny_field hos hds (x := .none) rfl (wpAny_bind (wpAny_field hos hds (x := .int 2 u) rfl (wpAny_bind (wpAny_field hos hds (x := .none) rfl (wpAny_pure ?_)))))))
  refine wpAny_bind (slicePart_none ?_)
  show wpAny _ _ (if ((1 : Int) == 0) = true then _ else _) _ _ s
  rw [if_neg (by decide)]
  refine wpAny_bind (slicePart_none (wpAny_bind (slicePart_int (wpAny_bind (wpAny_pure ?_)))))
  exact wpAny_pure h
theorem getItem_tuple_two {t sl : Addr} {a b c d : Value} {u : Tok} {Q : Value → Shared → Prop} (ht : IsTup s.heap t #[a, b, c, d]) (hs : s.heap.IsSliceOf sl .none (.int 2 u) .none)
    (h : Q (.ref s.heap.objs.size) { s with heap := s.heap.push { cls := .type "tuple", data := .seq #[a, b] } }) : wpAny (model prog w) A (getItem (.ref t) (.ref sl)) Q E s := by
  have hok : sizeOk (.seq #[a, b]) := by
    show 2 ≤ sizeLine
    rw [sizeLine_eq]; decide
  obtain ⟨os, hos, hcs, hds⟩ := id hs
  have hTs : s.TypeIs (.ref sl) "slice" := ⟨os, hos, hcs⟩
  unfold getItem
  try with_reducible refine wpAny_holding ?_
  first | refine wpAny_bind (wpAny_pure ?_) | skip
  refine wpAny_bind (wpAny_sequenceKey ht.typeIs (by decide) ?_)
  refine wpAny_bind (wpAny_callSpecial?_slot (name := Str.ofString "__getitem__") ht.typeIs slot_tuple_getitem
    (wpAny_call_entry slot_tuple_getitem ht.typeIs entry_tuple_getitem ?_ (args_tuple_getitem _ _)))
  show wpAny _ _ (Builtin.Tuple.tupleItemsOf (.ref t) >>= _) _ _ s
  refine wpAny_bind (tupleItemsOf_ ht ?_)
  refine wpAny_bind (wpAny_typeOf hTs ?_)
  rw [if_pos (by decide)]
  refine wpAny_bind (sliceApplied_two hs ?_)
  show wpAny _ _ (if ((0 : Int) == 0 && (1 : Int) == 1 && 2 == 4) = true then _ else _) _ _ s
  rw [if_neg (by decide)]
  have e : ((List.range 2).filterMap fun (k : Nat) => (#[a, b, c, d] : Array Value)[((0 : Int) + (k : Int) * 1).toNat]?).toArray = #[a, b] := rfl
  show wpAny _ _ (Builtin.Tuple.tupleExact ((List.range 2).filterMap fun (k : Nat) => (#[a, b, c, d] : Array Value)[((0 : Int) + (k : Int) * 1).toNat]?).toArray >>= _) _ _ s
  rw [e]
  first
    | exact wpAny_bind (m := Builtin.Tuple.tupleExact _) (wpAny_newObj_type (wpAny_pure ⟨_, rfl, wpAny_pure h⟩) hok)
    | exact wpAny_bind (m := Builtin.Tuple.tupleExact _) (wpAny_newObj_type (wpAny_bind (wpAny_pure (wpAny_pure ⟨_, rfl, wpAny_pure h⟩))) hok)
    | exact wpAny_bind (wpAny_bind (m := Builtin.Tuple.tupleExact _) (wpAny_newObj_type (wpAny_pure (wpAny_pure ⟨_, rfl, wpAny_pure h⟩)) hok))
    | exact wpAny_bind (wpAny_bind (m := Builtin.Tuple.tupleExact _) (wpAny_newObj_type (wpAny_pure ⟨_, rfl, wpAny_pure h⟩) hok))
theorem slice_tup2 {h₀ : Heap} {L : Addr} {m : Str → Option Value} {news : Led} {value slice : PySem.Expr} {t : Addr} {a b c d : Value} {u : Tok} {Q : Value → Shared → Prop}
    (F : Fr h₀ L s.heap m) (N : News h₀ L s.heap news) (ht : IsTup s.heap t #[a, b, c, d])
    (h : ∀ D h', Fr h₀ L h' m → News h₀ L h' ((D, ({ cls := .type "tuple", data := .seq #[a, b] } : Obj)) :: news) → (∀ p ∈ news, p.1 < D) → Q (.ref D) { s with heap := h' })
    (hs : subscripted slice false (.ref t) (.ref s.heap.objs.size) = operate [.ref s.heap.objs.size, .ref t] (getItem (.ref t) (.ref s.heap.objs.size)) := by with_unfolding_all rfl)
    (hg : ∀ r, letTemporaryGo value (.ref t) r = pure () := by intro _; with_unfolding_all rfl) :
    wpAny (model prog w) A (subscriptTail value slice (.ref t) (.ref s.heap.objs.size)) Q E { s with heap := s.heap.push { cls := .type "slice", data := .fields #[.none, .int 2 u, .none] } } := by
  have ht' : IsTup (s.heap.push { cls := .type "slice", data := .fields #[.none, .int 2 u, .none] }) t #[a, b, c, d] := ht.keeps fun _ _ e => Heap.get?_push_of_some _ e
  refine subscriptTail_ops (s := { s with heap := s.heap.push { cls := .type "slice", data := .fields #[.none, .int 2 u, .none] } }) ht'.typeIs slot_tuple_getitem.lookup
    (getItem_tuple_two ht' (Heap.IsSliceOf.new ..) ?_) hs hg
  have N1 := News.push (F.push { cls := .type "slice", data := .fields #[.none, .int 2 u, .none] }) (N.grown fun _ _ e => Heap.get?_push_of_some _ e) { cls := .type "tuple", data := .seq #[a, b] }
  rw [Heap.size_push] at N1
  show Q (.ref (s.heap.push _).objs.size) _
  rw [Heap.size_push]
  exact h _ _ ((F.push _).push _) N1 fun p hp => Nat.lt_succ_of_lt (Heap.lt_size (N p hp).1)
end
theorem truthy_no {M : Model} {A : Around} {b : Bool} {Q : Bool → Shared → Prop} {E : Value → Shared → Prop} {s : Shared} (e : b = false) (h : wpAny M A (truthy (.bool false)) Q E s) : wpAny M A (truthy (.bool b)) Q E s := by subst e; exact h
theorem same_false {k j : Nat} {a b c d : Int} (h : ((k : Int) == (j : Int) && a == b) = false) : ((decide (a = b) && decide (k = j) && decide (c = d)) != ((k : Int) == (j : Int) && a == b)) = false := by
  rw [h]
  by_cases ha : a = b
  · by_cases hk : k = j
    · subst ha; subst hk; simp at h
    · simp [hk]
  · simp [ha]
theorem same_false' {k j : Nat} {a b c d : Int} (h : ((k : Int) == (j : Int) && a == b) = false) : ((decide (b = a) && decide (j = k) && decide (d = c)) != ((k : Int) == (j : Int) && a == b)) = false := by
  rw [h]
  by_cases ha : b = a
  · by_cases hk : j = k
    · subst ha; subst hk; simp at h
    · simp [hk]
  · simp [ha]
theorem same_true {k j : Nat} {a b c d : Int} (h : ((k : Int) == (j : Int) && a == b) = true) : ((decide (a = b) && decide (k = j) && decide (c = d)) != (c == d)) = false := by
  simp only [Bool.and_eq_true, beq_iff_eq] at h
  obtain ⟨h1, h2⟩ := h
  have h3 : k = j := by omega
  by_cases hc : c = d <;> simp [h2, h3, hc]
theorem same_true' {k j : Nat} {a b c d : Int} (h : ((k : Int) == (j : Int) && a == b) = true) : ((decide (b = a) && decide (j = k) && decide (d = c)) != (c == d)) = false := by
  simp only [Bool.and_eq_true, beq_iff_eq] at h
  obtain ⟨h1, h2⟩ := h
  have h3 : k = j := by omega
  by_cases hc : c = d
  · simp [h2, h3, hc]
  · simp [h2, h3, hc, show ¬ d = c from fun q => hc q.symm]
theorem lt_same {k j : Nat} (hk : k < 6) (hj : j < 6) : (decide (secs k < secs j) != decide ((k : Int) < (j : Int))) = false := by rw [secs_lt hk hj]; exact bne_self_eq_false _
def EndN (h₀ : Heap) (L : Addr) (m : SMap) (news : Led) (s : Shared) (P : Value → Prop) (y : Value) (s' : Shared) : Prop := P y ∧ ∃ h' tk, s' = { s with heap := h', toks := tk } ∧ Fr h₀ L h' m ∧ News h₀ L h' news
theorem news_mono {M : Model} {A : Around} {t : Sem Value} {Q E : Value → Shared → Prop} {s : Shared} {h₀ : Heap} {L : Addr} {m : SMap} {news : Led} (P : Value → Prop) (h1 : wpAny M A t (EndN h₀ L m news s P) (fun _ _ => False) s)
    (h2 : ∀ y h' tk, P y → Fr h₀ L h' m → News h₀ L h' news → Q y { s with heap := h', toks := tk }) : wpAny M A t Q E s :=
  wpAny_mono h1 (fun _ _ h => by obtain ⟨p, h', tk, e, F, N⟩ := h; subst e; exact h2 _ _ _ p F N) (fun _ _ h => h.elim)
theorem news_mono2 {M : Model} {A : Around} {t : Sem Value} {Q E : Value → Shared → Prop} {s : Shared} {h₀ : Heap} {L : Addr} {m : SMap} {news : Led} (_ : Fr h₀ L s.heap m) (_ : News h₀ L s.heap news) (P : Value → Prop) (h1 : wpAny M A t (EndN h₀ L m news s P) (fun _ _ => False) s)
    (h2 : ∀ y h' tk, P y → Fr h₀ L h' m → News h₀ L h' news → Q y { s with heap := h', toks := tk }) : wpAny M A t Q E s := news_mono P h1 h2
def EndT (s : Shared) (P : Value → Prop) (y : Value) (s' : Shared) : Prop := P y ∧ ∃ tk, s' = { s with toks := tk }
theorem toks_mono2 {M : Model} {A : Around} {t : Sem Value} {Q E : Value → Shared → Prop} {s : Shared} (P : Value → Prop) (h1 : wpAny M A t (EndT s P) (fun _ _ => False) s) (h2 : ∀ y tk, P y → Q y { s with toks := tk }) : wpAny M A t Q E s := toks_mono P h1 h2

/-! ### P5 -/
theorem val_no {k j : Nat} {a b c d : Int} (h : ((k : Int) == (j : Int) && a == b) = false) : Value.bool ((k : Int) == (j : Int) && a == b) = .bool (decide (a = b) && decide (k = j) && decide (c = d)) := by
  rw [h]
  by_cases ha : a = b
  · by_cases hk : k = j
    · subst ha; subst hk; simp at h
    · simp [hk]
  · simp [ha]
theorem val_yes {k j : Nat} {a b c d : Int} (h : ((k : Int) == (j : Int) && a == b) = true) : Value.bool (c == d) = .bool (decide (a = b) && decide (k = j) && decide (c = d)) := by
  simp only [Bool.and_eq_true, beq_iff_eq] at h
  obtain ⟨h1, h2⟩ := h
  have h3 : k = j := by omega
  by_cases hc : c = d <;> simp [h2, h3, hc]
theorem same_self {b : Bool} : (b != b) = false := bne_self_eq_false b
theorem same_sym {k j : Nat} {a b c d : Int} : ((decide (b = a) && decide (j = k) && decide (d = c)) != (decide (a = b) && decide (k = j) && decide (c = d))) = false := by
  have e : ∀ {α : Type} [DecidableEq α] (x y : α), decide (y = x) = decide (x = y) := fun x y => decide_eq_decide.mpr ⟨Eq.symm, Eq.symm⟩
  rw [e a b, e k j, e c d]
  exact bne_self_eq_false _
theorem eq_texts {prog : Program} {w : World} {A : Around} {E : Value → Shared → Prop} {Q : Value → Shared → Prop} {s : Shared} {l b : Addr} {xs ys : List Value} {ts : List Str} (hl : s.heap.IsList l xs.toArray) (hb : s.heap.IsList b ys.toArray) (hx : StrsAre xs ts) (hy : StrsAre ys ts) (hu : A.units < cLine)
    (h : Q (.bool true) s) : wpAny (model prog w) A (compareOp .Eq (.ref l) (.ref b)) Q E s := by
  have e1 := hx.length
  have e2 := hy.length
  refine PySem.SeqAt.eq_listAt (e := fun _ => true) hl hb (by rw [List.size_toArray, List.size_toArray]; omega) hu (fun i h1 h2 => ?_) ?_
  · have i1 : i < ts.length := by rw [List.size_toArray] at h1; omega
    have hti : ts[i]? = some ts[i] := List.getElem?_eq_getElem i1
    obtain ⟨t1, k1⟩ := hx.at hti
    obtain ⟨t2, k2⟩ := hy.at hti
    have g1 : xs.toArray[i] = .str ts[i] t1 := by
      have := List.getElem?_eq_getElem (l := xs) (i := i) (by simpa using h1)
      rw [k1] at this
      simpa using (Option.some.inj this).symm
    have g2 : ys.toArray[i] = .str ts[i] t2 := by
      have := List.getElem?_eq_getElem (l := ys) (i := i) (by simpa using h2)
      rw [k2] at this
      simpa using (Option.some.inj this).symm
    rw [g1, g2]
    exact (by simpa using PySem.SeqAt.EqAt.str_str (A := A.in1) (s := s) ts[i] t1 ts[i] t2)
  · have e : (List.range xs.toArray.size).all (fun _ => true) = true := List.all_eq_true.mpr fun _ _ => rfl
    rw [e]
    exact h
def EqMark (xs ys : List Value) (ts : List Str) : Prop := StrsAre xs ts ∧ StrsAre ys ts

/-! ### P6 -/
theorem law_post (ws : List Int) : PySem.Challenge.rw_jb0018_01.row.claim.post [ofPy (PyData.list (List.map PyData.int ws))] (.bool true) [ofPy (PyData.list (List.map PyData.int ws))] = true := by
  wrow_post
theorem law_raises (ws : List Int) : ∀ cls, PySem.Challenge.rw_jb0018_01.row.claim.raises [ofPy (PyData.list (List.map PyData.int ws))] cls = false := by
  refine raisesW_false ?_
  wrow_none_raised

/-! ### lines of the walk: for all -/
local macro_rules | `(tactic| cell_enter) => `(tactic| (refine' code_def ?k1 ?k2 ?k3 ?k4 ?k5 ?kA ?kF ?kK ?k6 ?k7 ?k8 ?k9 ?kB ?_ ?c2 ?c3 ?c4 ?c5; (case kA => exact rfl); (case kF => exact rfl); (case kK => first | exact rfl | assumption); (case k1 => k_asm); (case k2 => k_asm); (case k3 => k_asm); (case k4 => k_asm); (case k5 => k_asm); (case k6 => k_is); (case k7 => k_is); (case k8 => ktr_room); (case k9 => first | exact BindsTo.of_eq rfl | exact binds_K (by k_in) rfl (by k_is) rfl rfl rfl); (case c5 => decide); (case kB => exact locs rfl); (case c2 => exact rfl); (case c3 => exact rfl); (case c4 => exact rfl); k_whole; intro g' L' h' FG' F' N' B' X' T'; (try dsimp only); (try k_lift B'); (try k_fold)))
local macro_rules | `(tactic| walk_at "call type:type") => `(tactic| (k_here; k_dflt (refine' type_ref ?F ?X ?l ?c ?_; (case F => k_asm); (case X => k_asm); (case l => assumption); (case c => rfl); k_whole)))
local macro_rules | `(tactic| walk_at "call builtin:issubclass") => `(tactic| (k_here; k_dflt (refine' issub_tup ?F ?X ?l ?c ?_; (case F => k_asm); (case X => k_asm); (case l => k_is); (case c => k_is); k_whole)))
local macro_rules | `(tactic| walk_at "getMethod type:tuple") => `(tactic| (k_here; refine' method_type ?F ?X ?m (by decide +kernel) ?e ?h ?_; (case F => k_asm); (case X => k_asm); (case m => exact meta_tuple); (case e => k_dflt k_is); (case h => k_handed)))
local macro_rules | `(tactic| walk_at "call builtin:tuple.__getitem__") => `(tactic| (k_here; k_dflt (refine' tup_item_sub ?F ?X ?l ?c ?lo ?hi ?k ?y ?_; (case F => k_asm); (case X => k_asm); (case l => assumption); (case c => k_is); (case lo => decide); (case hi => decide); (case k => rfl); (case y => assumption); k_whole)))
local macro_rules | `(tactic| walk_at "getAttr ref") => `(tactic| (k_here; (with_reducible show wpAny _ _ (getAttr (Value.ref _) (PySem.Str.ofString "amount") _) _ _ _); k_dflt ((refine' it_amount ?KD ?hk ?F ?X ?N ?I ?_; (case KD => assumption); (case F => k_asm); (case X => k_asm); (case N => k_asm); (case I => first | assumption | exact ItemAt.mono (by assumption) (by first | (intro p hp; (repeat (first | exact hp | refine List.mem_cons_of_mem _ ?_ | refine List.mem_append.mpr (.inr ?_))); done) | k_sub)); (case hk => assumption); k_whole; intro _))))
local macro_rules | `(tactic| walk_at "getAttr ref") => `(tactic| (k_here; (with_reducible show wpAny _ _ (getAttr (Value.ref _) (PySem.Str.ofString "multiples") _) _ _ _); k_dflt ((refine' it_multiples ?KD ?hk ?F ?X ?N ?I ?_; (case KD => assumption); (case F => k_asm); (case X => k_asm); (case N => k_asm); (case I => first | assumption | exact ItemAt.mono (by assumption) (by first | (intro p hp; (repeat (first | exact hp | refine List.mem_cons_of_mem _ ?_ | refine List.mem_append.mpr (.inr ?_))); done) | k_sub)); (case hk => assumption); k_whole; intro _))))
local macro_rules | `(tactic| walk_at "getAttr ref") => `(tactic| (k_here; (with_reducible show wpAny _ _ (getAttr (Value.ref _) (PySem.Str.ofString "namespace") _) _ _ _); k_dflt ((refine' it_namespace ?KD ?hk ?F ?X ?N ?I ?_; (case KD => assumption); (case F => k_asm); (case X => k_asm); (case N => k_asm); (case I => first | assumption | exact ItemAt.mono (by assumption) (by first | (intro p hp; (repeat (first | exact hp | refine List.mem_cons_of_mem _ ?_ | refine List.mem_append.mpr (.inr ?_))); done) | k_sub)); (case hk => assumption); k_whole; intro _))))
local macro_rules | `(tactic| walk_at "getAttr ref") => `(tactic| (k_here; (with_reducible show wpAny _ _ (getAttr (Value.ref _) (PySem.Str.ofString "GRANULARITY") _) _ _ _); k_dflt ((refine' it_gran ?KD ?hk ?F ?X ?N ?I ?_; (case KD => assumption); (case F => k_asm); (case X => k_asm); (case N => k_asm); (case I => first | assumption | exact ItemAt.mono (by assumption) (by first | (intro p hp; (repeat (first | exact hp | refine List.mem_cons_of_mem _ ?_ | refine List.mem_append.mpr (.inr ?_))); done) | k_sub)); (case hk => assumption); k_whole))))
local macro_rules | `(tactic| walk_at "getAttr ref") => `(tactic| (k_here; (with_reducible show wpAny _ _ (getAttr (Value.ref _) (PySem.Str.ofString "seconds") _) _ _ _); k_dflt ((refine' gr_seconds ?c ?KD ?hk ?F ?X ?N ?B ?T ?hcs ?hd ?hu ?_; (case c => assumption); (case KD => assumption); (case hk => assumption); (case F => k_asm); (case X => k_asm); (case N => k_asm); (case B => k_asm); (case T => k_asm); (case hcs => first | exact rfl | assumption); (case hd => ktr_room); (case hu => ktr_units); k_whole; intro _ _ _ F' N'))))
local macro_rules | `(tactic| walk_at "getAttr ref") => `(tactic| (k_here; (with_reducible show wpAny _ _ (getAttr (Value.ref _) (PySem.Str.ofString "name") _) _ _ _); k_dflt ((refine' gr_name ?c ?KD ?hk ?F ?X ?N ?B ?T ?hcs ?hd ?hu ?_; (case c => assumption); (case KD => assumption); (case hk => assumption); (case F => k_asm); (case X => k_asm); (case N => k_asm); (case B => k_asm); (case T => k_asm); (case hcs => first | exact rfl | assumption); (case hd => ktr_room); (case hu => ktr_units); k_whole; intro _ _ _ F' N'))))
local macro_rules | `(tactic| walk_at "call builtin:bytes.decode") => `(tactic| (k_here; (refine' dec26 ?h1 ?h2 ?_; (case h1 => assumption); (case h2 => assumption)); intro _ _))
local macro_rules | `(tactic| walk_at "call ref") => `(tactic| (k_here; (with_reducible show wpAny _ _ (call (Value.ref 71) _) _ _ _); k_dflt (refine' Con.use ?F ?X ?N ?B ?T ?hcs ?hd ?hu ?c ?_; (case F => k_asm); (case X => k_asm); (case N => k_asm); (case B => k_asm); (case T => k_asm); (case hcs => first | exact rfl | assumption); (case c => exact CSafe.use (by assumption) (by first | assumption | exact SafeV.int _ _ (by omega) | exact SafeV.str _ _ (by assumption))); (case hd => ktr_room); (case hu => ktr_units)); k_whole; intro r' tl' h' tk' F' N' hr'; obtain ⟨e1', t', e2'⟩ := hr'; subst e1'; subst e2'; (try simp only [List.nil_append] at N'); (try k_sweep)))
local macro_rules | `(tactic| walk_at "call ref") => `(tactic| (k_here; (with_reducible show wpAny _ _ (call (Value.ref 174) _) _ _ _); k_dflt (refine' Con.use ?F ?X ?N ?B ?T ?hcs ?hd ?hu ?c ?_; (case F => k_asm); (case X => k_asm); (case N => k_asm); (case B => k_asm); (case T => k_asm); (case hcs => first | exact rfl | assumption); (case c => exact CExp.use (by assumption) (by first | assumption | exact ItemAt.mono (by assumption) (by first | (intro p hp; (repeat (first | exact hp | refine List.mem_cons_of_mem _ ?_ | refine List.mem_append.mpr (.inr ?_))); done) | k_sub)) (by assumption) (by assumption) (by assumption)); (case hd => ktr_room); (case hu => ktr_units)); k_whole; intro r' tl' h' tk' F' N' hr'; obtain ⟨e1', t', e2'⟩ := hr'; subst e1'; subst e2'; (try simp only [List.nil_append] at N'); (try k_sweep)))
local macro_rules | `(tactic| walk_at "getAttr ref") => `(tactic| (k_here; (with_reducible show wpAny _ _ (getAttr (Value.ref (clsA _)) (PySem.Str.ofString "GRANULARITY") _) _ _ _); k_dflt (refine' cl_gran ?KD ?hk ?F ?X ?_; (case KD => assumption); (case hk => assumption); (case F => k_asm); (case X => k_asm); k_whole)))
local macro_rules | `(tactic| walk_at "call builtin:isinstance") => `(tactic| (k_here; (with_reducible show wpAny _ _ (call (Value.builtin "isinstance") [Value.ref _, Value.ref 205]) _ _ _); k_dflt (refine' it_isA ?KD ?hk ?F ?X ?N ?I ?_; (case KD => assumption); (case F => k_asm); (case X => k_asm); (case N => k_asm); (case I => first | assumption | exact ItemAt.mono (by assumption) (by first | (intro p hp; (repeat (first | exact hp | refine List.mem_cons_of_mem _ ?_ | refine List.mem_append.mpr (.inr ?_))); done) | k_sub)); (case hk => assumption); k_whole)))
local macro_rules | `(tactic| walk_at "compareOp Eq ref") => `(tactic| (k_here; (with_reducible show wpAny _ _ (compareOp _ (Value.ref (grA _)) (Value.ref (grA _))) _ _ _); k_dflt (refine' gr_cmp ?KD ?hk ?hj ?hu ?F ?X ?_; (case KD => assumption); (case hk => assumption); (case hj => assumption); (case hu => ktr_units); (case F => k_asm); (case X => k_asm); k_whole)))
/-! ### lines for the called functions alone -/
local macro_rules | `(tactic| walk_at "eval ListComp") => `(tactic| ((fail_if_success (with_reducible rename CChkC _ _ _ _ _ _ _ _ => hG9)); (k_here; k_dflt (refine ListComp_tup (F₀ := by k_asm) (by rfl) (by decide) (by rfl) (by decide) (by rfl) ?_); walk1; (try dsimp only); (refine halt_of ?_))))
local macro_rules | `(tactic| walk_at "subscriptTail") => `(tactic| ((fail_if_success (with_reducible rename CChkC _ _ _ _ _ _ _ _ => hG9)); (k_here; (with_reducible show wpAny _ _ (subscriptTail _ _ (Value.ref _) (Value.int _ _)) _ _ _); k_dflt (refine' item_any ?a ?b ?c ?d ?_; (case a => exact News.isList (by k_asm) (by k_mem)); (case b => exact (fmod_pos (by decide)).1); (case c => first | exact Int.lt_of_lt_of_le (fmod_pos (by decide)).2 (Int.le_refl 5) | exact Int.lt_of_lt_of_le (fmod_pos (by decide)).2 (Int.le_refl 3)); (case d => exact Nat.le_of_ble_eq_true rfl); k_whole); intro v' hv')))
local macro_rules | `(tactic| walk_at "setAttr ref") => `(tactic| ((fail_if_success (with_reducible rename CChkC _ _ _ _ _ _ _ _ => hG9)); (k_here; k_dflt (refine' set_dict ?k1 ?k2 ?k3 ?k4 ?k5 ?k6 ?k7 ?k8 ?k9 ?k10 ?k11 ?k12 ?k13 ?_; (case k1 => k_asm); (case k2 => k_asm); (case k3 => k_asm); (case k4 => exact InstAt.of_news (by k_asm) (by k_mem) (by k_mem)); (case k5 => exact rfl); (case k6 => exact KindG.setattr (by assumption) _ (by assumption)); (case k7 => exact KindG.over (by assumption) _ (by assumption)); (case k8 => first | exact KindG.tAm (by assumption) _ (by assumption) | exact KindG.tMu (by assumption) _ (by assumption) | exact KindG.tNs (by assumption) _ (by assumption)); (case k9 => exact KindG.hd (by assumption) _ (by assumption)); (case k10 => k_get); (case k11 => k_put); (case k12 => exact upd_own (by assumption) (by assumption)); (case k13 => exact Nat.le_of_ble_eq_true rfl); k_whole; intro h' F' N'; (try k_sweep)))))
local macro_rules | `(tactic| walk_at "call ref") => `(tactic| ((fail_if_success (with_reducible rename CChkC _ _ _ _ _ _ _ _ => hG9)); (k_here; (with_reducible show wpAny _ _ (call (Value.ref 309) _) _ _ _); k_dflt (refine' it_make 0 ?c ?KG ?hm ?hk ?F ?X ?N ?B ?T ?hcs ?hd ?hu ?_; (case c => assumption); (case KG => assumption); (case hm => assumption); (case hk => decide); (case F => k_asm); (case X => k_asm); (case N => k_asm); (case B => k_asm); (case T => k_asm); (case hcs => first | exact rfl | assumption); (case hd => ktr_room); (case hu => ktr_units); k_whole; intro x' tl' h' tk' F' N' o' i'))))
local macro_rules | `(tactic| walk_at "call ref") => `(tactic| ((fail_if_success (with_reducible rename CChkC _ _ _ _ _ _ _ _ => hG9)); (k_here; (with_reducible show wpAny _ _ (call (Value.ref 292) _) _ _ _); k_dflt (refine' it_make 1 ?c ?KG ?hm ?hk ?F ?X ?N ?B ?T ?hcs ?hd ?hu ?_; (case c => assumption); (case KG => assumption); (case hm => assumption); (case hk => decide); (case F => k_asm); (case X => k_asm); (case N => k_asm); (case B => k_asm); (case T => k_asm); (case hcs => first | exact rfl | assumption); (case hd => ktr_room); (case hu => ktr_units); k_whole; intro x' tl' h' tk' F' N' o' i'))))
local macro_rules | `(tactic| walk_at "call ref") => `(tactic| ((fail_if_success (with_reducible rename CChkC _ _ _ _ _ _ _ _ => hG9)); (k_here; (with_reducible show wpAny _ _ (call (Value.ref 275) _) _ _ _); k_dflt (refine' it_make 2 ?c ?KG ?hm ?hk ?F ?X ?N ?B ?T ?hcs ?hd ?hu ?_; (case c => assumption); (case KG => assumption); (case hm => assumption); (case hk => decide); (case F => k_asm); (case X => k_asm); (case N => k_asm); (case B => k_asm); (case T => k_asm); (case hcs => first | exact rfl | assumption); (case hd => ktr_room); (case hu => ktr_units); k_whole; intro x' tl' h' tk' F' N' o' i'))))
local macro_rules | `(tactic| walk_at "call ref") => `(tactic| ((fail_if_success (with_reducible rename CChkC _ _ _ _ _ _ _ _ => hG9)); (k_here; (with_reducible show wpAny _ _ (call (Value.ref 258) _) _ _ _); k_dflt (refine' it_make 3 ?c ?KG ?hm ?hk ?F ?X ?N ?B ?T ?hcs ?hd ?hu ?_; (case c => assumption); (case KG => assumption); (case hm => assumption); (case hk => decide); (case F => k_asm); (case X => k_asm); (case N => k_asm); (case B => k_asm); (case T => k_asm); (case hcs => first | exact rfl | assumption); (case hd => ktr_room); (case hu => ktr_units); k_whole; intro x' tl' h' tk' F' N' o' i'))))
local macro_rules | `(tactic| walk_at "call ref") => `(tactic| ((fail_if_success (with_reducible rename CChkC _ _ _ _ _ _ _ _ => hG9)); (k_here; (with_reducible show wpAny _ _ (call (Value.ref 241) _) _ _ _); k_dflt (refine' it_make 4 ?c ?KG ?hm ?hk ?F ?X ?N ?B ?T ?hcs ?hd ?hu ?_; (case c => assumption); (case KG => assumption); (case hm => assumption); (case hk => decide); (case F => k_asm); (case X => k_asm); (case N => k_asm); (case B => k_asm); (case T => k_asm); (case hcs => first | exact rfl | assumption); (case hd => ktr_room); (case hu => ktr_units); k_whole; intro x' tl' h' tk' F' N' o' i'))))
local macro_rules | `(tactic| walk_at "call ref") => `(tactic| ((fail_if_success (with_reducible rename CChkC _ _ _ _ _ _ _ _ => hG9)); (k_here; (with_reducible show wpAny _ _ (call (Value.ref 224) _) _ _ _); k_dflt (refine' it_make 5 ?c ?KG ?hm ?hk ?F ?X ?N ?B ?T ?hcs ?hd ?hu ?_; (case c => assumption); (case KG => assumption); (case hm => assumption); (case hk => decide); (case F => k_asm); (case X => k_asm); (case N => k_asm); (case B => k_asm); (case T => k_asm); (case hcs => first | exact rfl | assumption); (case hd => ktr_room); (case hu => ktr_units); k_whole; intro x' tl' h' tk' F' N' o' i'))))
/-! ### lines for the law's own body alone -/
local macro_rules | `(tactic| walk_at "exec Assign cons ListComp") => `(tactic| ((with_reducible rename CChkC _ _ _ _ _ _ _ _ => hG9); (k_here; k_dflt (refine LCg.Assign_ListComp_U (F₀ := by k_asm) (by rfl) (by with_unfolding_all rfl) (by with_unfolding_all rfl) (by decide) (by rfl) (by decide) (by rfl) (by rfl) (by rfl) ?_))))
local macro_rules | `(tactic| walk_at "eval ListComp") => `(tactic| ((with_reducible rename CChkC _ _ _ _ _ _ _ _ => hG9); (k_here; k_dflt (refine LCg.ListComp_U (F₀ := by k_asm) (by with_unfolding_all rfl) (by decide) (by rfl) (by decide) (by rfl) ?_))))
local macro_rules | `(tactic| walk_at "CompSrc") => `(tactic| ((with_reducible rename CChkC _ _ _ _ _ _ _ _ => hG9); refine halt_of ?_))
local macro_rules | `(tactic| walk_at "subscriptTail") => `(tactic| ((with_reducible rename CChkC _ _ _ _ _ _ _ _ => hG9); (k_here; (with_reducible show wpAny _ _ (subscriptTail (PySem.Expr.BinOp _ _ _ _) (PySem.Expr.Slice _ _ none _) (Value.ref _) (Value.ref _)) _ _ _); k_dflt (refine kba_turn (value' := PySem.Expr.Name (PySem.Str.ofString "_") ⟨0, 0, 0, 0⟩) (fun _ => rfl) ?_); k_dflt (refine' kmk_slice_ints ?F ?N ?l ?p ?q ?i ?m ?c ?_ ?s ?t ?z; (case F => k_asm); (case N => k_asm); (case l => kmk_list); (case p => kmk_part); (case q => kmk_part); (case i => assumption); (case m => exact kmk_upto (by assumption) (by decide)); (case c => exact rfl); (case s => with_unfolding_all rfl); (case t => kmk_pure); (case z => kmk_size)); intro D' ws' h' F' N' l1 hI' _ _; (try k_lt l1); (try k_sweep))))
local macro_rules | `(tactic| walk_at "subscriptTail") => `(tactic| ((with_reducible rename CChkC _ _ _ _ _ _ _ _ => hG9); (k_here; (with_reducible show wpAny _ _ (subscriptTail (PySem.Expr.Name (PySem.Str.ofString "script") _) (PySem.Expr.Slice _ _ none _) (Value.ref _) (Value.ref _)) _ _ _); k_dflt (refine' kmk_slice_ints ?F ?N ?l ?p ?q ?i ?m ?c ?_ ?s ?t ?z; (case F => k_asm); (case N => k_asm); (case l => kmk_list); (case p => kmk_part); (case q => kmk_part); (case i => assumption); (case m => exact kmk_run (by assumption) (by decide) (by decide)); (case c => exact rfl); (case s => with_unfolding_all rfl); (case t => kmk_pure); (case z => kmk_size)); intro D' ws' h' F' N' l1 hI' _ _; (try k_lt l1); (try k_sweep))))
local macro_rules | `(tactic| walk_at "call ref") => `(tactic| ((with_reducible rename CChkC _ _ _ _ _ _ _ _ => hG9); (k_here; (with_reducible show wpAny _ _ (call (Value.ref 339) _) _ _ _); k_dflt (refine' Con.use ?F ?X ?N ?B ?T ?hcs ?hd ?hu ?c ?_; (case F => k_asm); (case X => k_asm); (case N => k_asm); (case B => k_asm); (case T => k_asm); (case hcs => first | exact rfl | assumption); (case c => exact (by assumption : CPlain _ _ _ _ _ _ _ _) _ _ _); (case hd => ktr_room); (case hu => ktr_units)); k_whole; intro r' tl' h' tk' F' N' hr'; obtain ⟨ab', T', k', am', v', ti', sp', e1', pl'⟩ := hr'; subst e1'; (try k_sweep))))
local macro_rules | `(tactic| walk_at "call ref") => `(tactic| ((with_reducible rename CChkC _ _ _ _ _ _ _ _ => hG9); (k_here; (with_reducible show wpAny _ _ (call (Value.ref 346) _) _ _ _); k_dflt (refine' Con.use ?F ?X ?N ?B ?T ?hcs ?hd ?hu ?c ?_; (case F => k_asm); (case X => k_asm); (case N => k_asm); (case B => k_asm); (case T => k_asm); (case hcs => first | exact rfl | assumption); (case c => exact (by assumption : CIdent _ _ _ _ _ _ _ _) _ _ _); (case hd => ktr_room); (case hu => ktr_units)); k_whole; intro r' tl' h' tk' F' N' hr'; obtain ⟨ab', T', v', x', e1', pl'⟩ := hr'; subst e1'; (try k_sweep))))
local macro_rules | `(tactic| walk_at "call ref") => `(tactic| ((with_reducible rename CChkC _ _ _ _ _ _ _ _ => hG9); (k_here; (with_reducible show wpAny _ _ (call (Value.ref 332) _) _ _ _); k_dflt (refine' Con.use ?F ?X ?N ?B ?T ?hcs ?hd ?hu ?c ?_; (case F => k_asm); (case X => k_asm); (case N => k_asm); (case B => k_asm); (case T => k_asm); (case hcs => first | exact rfl | assumption); (case c => exact (by assumption : CItem _ _ _ _ _ _ _ _) _ _ _ _ _ _ _ _ _ (by assumption) (by assumption) (by assumption) (by assumption) (by assumption)); (case hd => ktr_room); (case hu => ktr_units)); k_whole; intro r' tl' h' tk' F' N' hr'; obtain ⟨ab', x', e1', pl'⟩ := hr'; subst e1'; (try k_sweep))))
local macro_rules | `(tactic| walk_at "call ref") => `(tactic| ((with_reducible rename CChkC _ _ _ _ _ _ _ _ => hG9); (k_here; (with_reducible show wpAny _ _ (call (Value.ref 318) _) _ _ _); k_dflt (refine' Con.use ?F ?X ?N ?B ?T ?hcs ?hd ?hu ?c ?_; (case F => k_asm); (case X => k_asm); (case N => k_asm); (case B => k_asm); (case T => k_asm); (case hcs => first | exact rfl | assumption); (case c => exact (by assumption : CGrains _ _ _ _ _ _ _ _) _); (case hd => ktr_room); (case hu => ktr_units)); k_whole; intro r' tl' h' tk' F' N' hr'; obtain ⟨ab', l', e1', gr'⟩ := hr'; subst e1'; (try simp only [List.nil_append] at N'); (try k_sweep))))
local macro_rules | `(tactic| walk_at "subscriptTail") => `(tactic| ((with_reducible rename CChkC _ _ _ _ _ _ _ _ => hG9); (k_here; (with_reducible show wpAny _ _ (subscriptTail (PySem.Expr.Call _ _ _ _) _ (Value.ref _) (Value.int _ _)) _ _ _); k_dflt (refine' grains_item ?N ?g ?hk ?_; (case N => k_asm); (case g => assumption); (case hk => assumption)); intro T' ta' tb' n' N'; (try dsimp only at N'))))
local macro_rules | `(tactic| walk_at "eval IfExp") => `(tactic| ((with_reducible rename CChkC _ _ _ _ _ _ _ _ => hG9); ((fail_if_success (with_reducible show wpAny _ _ _ _ (fun _ _ => False) _)); refine halt_of ?_)))
local macro_rules | `(tactic| walk_at "getMethod ref") => `(tactic| ((with_reducible rename CChkC _ _ _ _ _ _ _ _ => hG9); (k_here; (with_reducible show wpAny _ _ (getMethod (Value.ref _) (PySem.Str.ofString "get_expiry") _) _ _ _); k_dflt (refine' it_method ?KD ?hk ?F ?X ?N ?I ?m ?f ?l ?_; (case KD => assumption); (case F => k_asm); (case X => k_asm); (case N => k_asm); (case I => first | assumption | exact ItemAt.mono (by assumption) (by intro p hp; repeat (first | exact hp | refine List.mem_cons_of_mem _ ?_ | refine List.mem_append.mpr (.inr ?_)))); (case hk => assumption); (case m => exact KindF.mExp (by assumption) _ (by assumption)); (case f => exact KindF.fExp (by assumption)); (case l => intros; rfl)); k_whole)))
local macro_rules | `(tactic| walk_at "getMethod ref") => `(tactic| ((with_reducible rename CChkC _ _ _ _ _ _ _ _ => hG9); (k_here; (with_reducible show wpAny _ _ (getMethod (Value.ref _) (PySem.Str.ofString "key_for") _) _ _ _); k_dflt (refine' it_method ?KD ?hk ?F ?X ?N ?I ?m ?f ?l ?_; (case KD => assumption); (case F => k_asm); (case X => k_asm); (case N => k_asm); (case I => first | assumption | exact ItemAt.mono (by assumption) (by intro p hp; repeat (first | exact hp | refine List.mem_cons_of_mem _ ?_ | refine List.mem_append.mpr (.inr ?_)))); (case hk => assumption); (case m => exact KindF.mKey (by assumption) _ (by assumption)); (case f => exact KindF.fKey (by assumption)); (case l => intros; rfl)); k_whole)))
local macro_rules | `(tactic| walk_at "call ref") => `(tactic| ((with_reducible rename CChkC _ _ _ _ _ _ _ _ => hG9); (k_here; (with_reducible show wpAny _ _ (call (Value.ref 181) [Value.ref _, Value.ref _]) _ _ _); k_dflt (refine' Con.use ?F ?X ?N ?B ?T ?hcs ?hd ?hu ?c ?_; (case F => k_asm); (case X => k_asm); (case N => k_asm); (case B => k_asm); (case T => k_asm); (case hcs => first | exact rfl | assumption); (case c => exact CKey.use (by assumption) (by first | assumption | exact ItemAt.mono (by assumption) (by intro p hp; repeat (first | exact hp | refine List.mem_cons_of_mem _ ?_ | refine List.mem_append.mpr (.inr ?_)))) (by k_mem) (by assumption) (by assumption) (by assumption) (by assumption) (by assumption) (by assumption) (by assumption) (by assumption)); (case hd => ktr_room); (case hu => ktr_units)); k_whole; intro r' tl' h' tk' F' N' hr'; obtain ⟨e1', t', e2'⟩ := hr'; subst e1'; subst e2'; (try simp only [List.nil_append] at N'); (try k_sweep))))
local macro_rules | `(tactic| walk_at "compareOp NotEq ref ref") => `(tactic| ((with_reducible rename CChkC _ _ _ _ _ _ _ _ => hG9); (k_here; (with_reducible show wpAny _ _ (compareOp CmpOp.NotEq (Value.ref _) (Value.ref _)) _ _ _); k_dflt (refine' ne_four ?a ?b ?u ?_; (case a => exact News.isTup (by k_asm) (by k_mem)); (case b => exact News.isTup (by k_asm) (by k_mem)); (case u => ktr_units)))))
local macro_rules | `(tactic| walk_at "getMethod ref") => `(tactic| ((with_reducible rename CChkC _ _ _ _ _ _ _ _ => hG9); (k_here; (with_reducible show wpAny _ _ (getMethod (Value.ref _) (PySem.Str.ofString "check_granularity_string") _) _ _ _); k_dflt (refine' it_check ?KD ?hk ?F ?X ?N ?I ?a ?b ?c ?d ?_; (case KD => assumption); (case F => k_asm); (case X => k_asm); (case N => k_asm); (case I => first | assumption | exact ItemAt.mono (by assumption) (by intro p hp; repeat (first | exact hp | refine List.mem_cons_of_mem _ ?_ | refine List.mem_append.mpr (.inr ?_)))); (case hk => assumption); (case a => k_is); (case b => k_is); (case c => k_is); (case d => k_is)); k_whole; intro q' h' F' N' l1; (try k_lt l1); (try k_sweep))))
local macro_rules | `(tactic| walk_at "call ref") => `(tactic| ((with_reducible rename CChkC _ _ _ _ _ _ _ _ => hG9); (k_here; (with_reducible show wpAny _ _ (call (Value.ref 164) _) _ _ _); k_dflt (refine' Con.use ?F ?X ?N ?B ?T ?hcs ?hd ?hu ?c ?_; (case F => k_asm); (case X => k_asm); (case N => k_asm); (case B => k_asm); (case T => k_asm); (case hcs => first | exact rfl | assumption); (case c => exact (by assumption : CChk _ _ _ _ _ _ _ _) _ _ _ _ (by assumption) (by assumption)); (case hd => ktr_room); (case hu => ktr_units)); k_whole; intro r' tl' h' tk' F' N' hr'; obtain ⟨e1', e2'⟩ := hr'; subst e1'; subst e2'; (try simp only [List.nil_append] at N'); (try k_sweep))))
local macro_rules | `(tactic| walk_at "ite") => `(tactic| ((with_reducible rename CChkC _ _ _ _ _ _ _ _ => hG9); ((with_reducible show ite (false = true) _ _); refine ite_ff ?_)))
local macro_rules | `(tactic| walk_at "ite") => `(tactic| ((with_reducible rename CChkC _ _ _ _ _ _ _ _ => hG9); ((with_reducible show ite (true = true) _ _); refine ite_tt ?_)))
local macro_rules | `(tactic| walk_at "call builtin:str.join") => `(tactic| ((with_reducible rename CChkC _ _ _ _ _ _ _ _ => hG9); refine halt_of ?_))
local macro_rules | `(tactic| walk_at "compareOp NotEq str str") => `(tactic| ((with_reducible rename CChkC _ _ _ _ _ _ _ _ => hG9); (k_here; (with_reducible show wpAny _ _ (compareOp CmpOp.NotEq (Value.str (keyT _ _ _ _ _) _) (Value.str _ _)) _ _ _); k_dflt (refine' ne_same ?e ?_; (case e => first | exact (key_law0 _ _ _ _).symm | (rename Txt.join _ _ = _ => hj; subst hj; exact (key_law _ _ _ _ _).symm))))))
local macro_rules | `(tactic| walk_at "call ref") => `(tactic| ((with_reducible rename CChkC _ _ _ _ _ _ _ _ => hG9); (k_here; (with_reducible show wpAny _ _ (call (Value.ref 325) _) _ _ _); k_dflt (refine' Con.use ?F ?X ?N ?B ?T ?hcs ?hd ?hu ?c ?_; (case F => k_asm); (case X => k_asm); (case N => k_asm); (case B => k_asm); (case T => k_asm); (case hcs => first | exact rfl | assumption); (case c => exact (by assumption : CWords _ _ _ _ _ _ _ _) _); (case hd => ktr_room); (case hu => ktr_units)); k_whole; intro r' tl' h' tk' F' N' hr'; obtain ⟨ab', l', e1', gr'⟩ := hr'; subst e1'; (try simp only [List.nil_append] at N'); (try k_sweep))))
local macro_rules | `(tactic| walk_at "pyIter ref") => `(tactic| ((with_reducible rename CChkC _ _ _ _ _ _ _ _ => hG9); ((with_reducible rename WordsAt _ _ => hw9); refine halt_of ?_)))
local macro_rules | `(tactic| walk_at "UnrEnd") => `(tactic| ((with_reducible rename CChkC _ _ _ _ _ _ _ _ => hG9); refine halt_of ?_))
local macro_rules | `(tactic| walk_at "call ref") => `(tactic| ((with_reducible rename CChkC _ _ _ _ _ _ _ _ => hG9); (k_here; (with_reducible show wpAny _ _ (call (Value.ref 181) (_ ++ [])) _ _ _); (try dsimp only [List.cons_append, List.nil_append]); (with_reducible show wpAny _ _ (call (Value.ref 181) [Value.ref _]) _ _ _); k_dflt (refine' Con.use ?F ?X ?N ?B ?T ?hcs ?hd ?hu ?c ?_; (case F => k_asm); (case X => k_asm); (case N => k_asm); (case B => k_asm); (case T => k_asm); (case hcs => first | exact rfl | assumption); (case c => exact CKey0.use (by assumption) (by first | assumption | exact ItemAt.mono (by assumption) (by intro p hp; repeat (first | exact hp | refine List.mem_cons_of_mem _ ?_ | refine List.mem_append.mpr (.inr ?_)))) (by assumption) (by assumption) (by assumption) (by assumption) (by assumption) (by assumption)); (case hd => ktr_room); (case hu => ktr_units)); k_whole; intro r' tl' h' tk' F' N' hr'; obtain ⟨e1', t', e2'⟩ := hr'; subst e1'; subst e2'; (try simp only [List.nil_append] at N'); (try k_sweep))))
local macro_rules | `(tactic| walk_at "callWith ref") => `(tactic| ((with_reducible rename CChkC _ _ _ _ _ _ _ _ => hG9); (k_here; (with_reducible show wpAny _ _ (callWith _ _ _ (backTo _ (starEach [] _)) []) _ _ _); (try dsimp only); k_dflt (refine' callWith_K0 ?k1 ?k2 ?_; (case k1 => exact Frag.In.keeps (by with_reducible assumption) (Fr.keep (by k_asm))); (case k2 => k_is); k_whole))))
local macro_rules | `(tactic| walk_at "callWith ref") => `(tactic| ((with_reducible rename CChkC _ _ _ _ _ _ _ _ => hG9); (k_here; (with_reducible show wpAny _ _ (callWith _ _ _ (backTo _ (starEach (_ :: _) _)) []) _ _ _); (try dsimp only); k_dflt (refine' callWith_K ?k1 ?k2 ?_; (case k1 => k_asm); (case k2 => k_is); k_whole))))
local macro_rules | `(tactic| walk_at "compareOp Eq ref") => `(tactic| ((with_reducible rename CChkC _ _ _ _ _ _ _ _ => hG9); (k_here; (with_reducible show wpAny _ _ (compareOp CmpOp.Eq (Value.ref _) (Value.str _ _)) _ _ _); k_dflt (refine' it_eqS ?KD ?hk ?F ?X ?N ?I ?hu ?_; (case KD => assumption); (case F => k_asm); (case X => k_asm); (case N => k_asm); (case I => first | assumption | exact ItemAt.mono (by assumption) (by intro p hp; repeat (first | exact hp | refine List.mem_cons_of_mem _ ?_ | refine List.mem_append.mpr (.inr ?_)))); (case hk => assumption); (case hu => ktr_units)); k_whole)))
local macro_rules | `(tactic| walk_at "compareOp Eq ref") => `(tactic| ((with_reducible rename CChkC _ _ _ _ _ _ _ _ => hG9); (k_here; (with_reducible show wpAny _ _ (compareOp CmpOp.Eq (Value.ref _) (Value.ref _)) _ _ _); k_dflt (refine' it_eqT ?KD ?hk ?F ?X ?N ?I ?hT ?hu ?_; (case KD => assumption); (case F => k_asm); (case X => k_asm); (case N => k_asm); (case I => first | assumption | exact ItemAt.mono (by assumption) (by intro p hp; repeat (first | exact hp | refine List.mem_cons_of_mem _ ?_ | refine List.mem_append.mpr (.inr ?_)))); (case hk => assumption); (case hT => k_mem); (case hu => ktr_units)); k_whole)))
local macro_rules | `(tactic| walk_at "compareOp Eq ref") => `(tactic| ((with_reducible rename CChkC _ _ _ _ _ _ _ _ => hG9); (k_here; (with_reducible show wpAny _ _ (compareOp CmpOp.Eq (Value.ref _) (Value.ref _)) _ _ _); k_dflt (refine' it_eqI ?KD ?hk ?hj ?F ?X ?N ?I ?J ?hu ?_; (case KD => assumption); (case F => k_asm); (case X => k_asm); (case N => k_asm); (case I => first | assumption | exact ItemAt.mono (by assumption) (by intro p hp; repeat (first | exact hp | refine List.mem_cons_of_mem _ ?_ | refine List.mem_append.mpr (.inr ?_)))); (case J => first | assumption | exact ItemAt.mono (by assumption) (by intro p hp; repeat (first | exact hp | refine List.mem_cons_of_mem _ ?_ | refine List.mem_append.mpr (.inr ?_)))); (case hk => assumption); (case hj => assumption); (case hu => ktr_units)); k_whole)))
local macro_rules | `(tactic| walk_at "compareOp Lt ref") => `(tactic| ((with_reducible rename CChkC _ _ _ _ _ _ _ _ => hG9); (k_here; (with_reducible show wpAny _ _ (compareOp CmpOp.Lt (Value.ref _) (Value.ref _)) _ _ _); k_dflt (refine' it_ltI ?KD ?hk ?hj ?F ?X ?N ?I ?J ?hu ?_; (case KD => assumption); (case F => k_asm); (case X => k_asm); (case N => k_asm); (case I => first | assumption | exact ItemAt.mono (by assumption) (by intro p hp; repeat (first | exact hp | refine List.mem_cons_of_mem _ ?_ | refine List.mem_append.mpr (.inr ?_)))); (case J => first | assumption | exact ItemAt.mono (by assumption) (by intro p hp; repeat (first | exact hp | refine List.mem_cons_of_mem _ ?_ | refine List.mem_append.mpr (.inr ?_)))); (case hk => assumption); (case hj => assumption); (case hu => ktr_units)); k_whole)))
local macro_rules | `(tactic| walk_at "call ref") => `(tactic| ((with_reducible rename CChkC _ _ _ _ _ _ _ _ => hG9); (k_here; (with_reducible show wpAny _ _ (call (Value.ref 188) [Value.ref _, Value.str _ _]) _ _ _); k_dflt (refine' Con.use ?F ?X ?N ?B ?T ?hcs ?hd ?hu ?c ?_; (case F => k_asm); (case X => k_asm); (case N => k_asm); (case B => k_asm); (case T => k_asm); (case hcs => first | exact rfl | assumption); (case c => exact (by assumption : CEqS _ _ _ _ _ _ _ _) _ _ _ _); (case hd => ktr_room); (case hu => ktr_units)); k_whole; intro r' tl' h' tk' F' N' hr'; obtain ⟨e1', e2'⟩ := hr'; subst e1'; subst e2'; (try simp only [List.nil_append] at N'); (try k_sweep); (try dsimp only [W.CmpBack]))))
local macro_rules | `(tactic| walk_at "call ref") => `(tactic| ((with_reducible rename CChkC _ _ _ _ _ _ _ _ => hG9); (k_here; (with_reducible show wpAny _ _ (call (Value.ref 188) [Value.ref _, Value.ref _]) _ _ _); k_dflt (refine' Con.use ?F ?X ?N ?B ?T ?hcs ?hd ?hu ?c ?_; (case F => k_asm); (case X => k_asm); (case N => k_asm); (case B => k_asm); (case T => k_asm); (case hcs => first | exact rfl | assumption); (case c => exact CEqT.use (by assumption) (by k_mem)); (case hd => ktr_room); (case hu => ktr_units)); k_whole; intro r' tl' h' tk' F' N' hr'; obtain ⟨e1', e2'⟩ := hr'; subst e1'; subst e2'; (try simp only [List.nil_append] at N'); (try k_sweep); (try dsimp only [W.CmpBack]))))
local macro_rules | `(tactic| walk_at "call ref") => `(tactic| ((with_reducible rename CChkC _ _ _ _ _ _ _ _ => hG9); (k_here; (with_reducible show wpAny _ _ (call (Value.ref 188) [Value.ref _, Value.ref _]) _ _ _); k_dflt (refine' Con.use ?F ?X ?N ?B ?T ?hcs ?hd ?hu ?c ?_; (case F => k_asm); (case X => k_asm); (case N => k_asm); (case B => k_asm); (case T => k_asm); (case hcs => first | exact rfl | assumption); (case c => exact CEq.use (by assumption) (by first | assumption | exact ItemAt.mono (by assumption) (by intro p hp; repeat (first | exact hp | refine List.mem_cons_of_mem _ ?_ | refine List.mem_append.mpr (.inr ?_)))) (by first | assumption | exact ItemAt.mono (by assumption) (by intro p hp; repeat (first | exact hp | refine List.mem_cons_of_mem _ ?_ | refine List.mem_append.mpr (.inr ?_)))) (by assumption) (by assumption)); (case hd => ktr_room); (case hu => ktr_units)); k_whole; intro r' tl' h' tk' F' N' hr'; obtain ⟨e1', e2'⟩ := hr'; subst e1'; subst e2'; (try simp only [List.nil_append] at N'); (try k_sweep); (try dsimp only [W.CmpBack]))))
local macro_rules | `(tactic| walk_at "call ref") => `(tactic| ((with_reducible rename CChkC _ _ _ _ _ _ _ _ => hG9); (k_here; (with_reducible show wpAny _ _ (call (Value.ref 202) [Value.ref _, Value.ref _]) _ _ _); k_dflt (refine' Con.use ?F ?X ?N ?B ?T ?hcs ?hd ?hu ?c ?_; (case F => k_asm); (case X => k_asm); (case N => k_asm); (case B => k_asm); (case T => k_asm); (case hcs => first | exact rfl | assumption); (case c => exact CLt.use (by assumption) (by first | assumption | exact ItemAt.mono (by assumption) (by intro p hp; repeat (first | exact hp | refine List.mem_cons_of_mem _ ?_ | refine List.mem_append.mpr (.inr ?_)))) (by first | assumption | exact ItemAt.mono (by assumption) (by intro p hp; repeat (first | exact hp | refine List.mem_cons_of_mem _ ?_ | refine List.mem_append.mpr (.inr ?_)))) (by assumption) (by assumption)); (case hd => ktr_room); (case hu => ktr_units)); k_whole; intro r' tl' h' tk' F' N' hr'; obtain ⟨e1', e2'⟩ := hr'; subst e1'; subst e2'; (try simp only [List.nil_append] at N'); (try k_sweep); (try dsimp only [W.CmpBack]))))
local macro_rules | `(tactic| walk_at "call ref") => `(tactic| ((with_reducible rename CChkC _ _ _ _ _ _ _ _ => hG9); (k_here; (with_reducible show wpAny _ _ (call (Value.ref _) [Value.str _ _]) _ _ _); k_dflt (refine' chk_meth ?c ?F ?X ?N ?B ?T ?hcs ?hd ?hu ?hq ?hk ?hx ?_; (case c => assumption); (case F => k_asm); (case X => k_asm); (case N => k_asm); (case B => k_asm); (case T => k_asm); (case hcs => first | exact rfl | assumption); (case hd => ktr_room); (case hu => ktr_units); (case hq => k_mem); (case hk => assumption); (case hx => assumption)); k_whole; intro h' tk' F' N'; (try k_sweep))))
local macro_rules | `(tactic| walk_at "subscriptTail") => `(tactic| ((with_reducible rename CChkC _ _ _ _ _ _ _ _ => hG9); (k_here; (with_reducible show wpAny _ _ (subscriptTail _ (PySem.Expr.Slice none _ none _) (Value.ref _) (Value.ref _)) _ _ _); k_dflt (refine' slice_tup2 ?F ?N ?l ?_ ?s ?g; (case F => k_asm); (case N => k_asm); (case l => exact News.isTup (by k_asm) (by k_mem)); (case s => with_unfolding_all rfl); (case g => kmk_pure)); intro D' h' F' N' l1; (try k_lt l1); (try k_sweep))))
local macro_rules | `(tactic| walk_at "truthy bool") => `(tactic| ((with_reducible rename CChkC _ _ _ _ _ _ _ _ => hG9); (k_here; (with_reducible show wpAny _ _ (truthy (Value.bool (_ != _))) _ _ _); (refine truthy_no ?e ?_; (case e => first | exact chk_any | exact same_self | exact same_sym | exact lt_same (by assumption) (by assumption))))))
local macro_rules | `(tactic| walk_at "eval BoolOp") => `(tactic| ((with_reducible rename CChkC _ _ _ _ _ _ _ _ => hG9); ((with_reducible show wpAny _ _ (eval (PySem.Expr.BoolOp PySem.BoolOp.Or _ _) _) _ _ _); (fail_if_success (with_reducible show wpAny _ _ _ (EndT _ _) _ _)); refine halt_of ?_)))
local macro_rules | `(tactic| walk_at "eval BoolOp") => `(tactic| ((with_reducible rename CChkC _ _ _ _ _ _ _ _ => hG9); ((with_reducible show wpAny _ _ (eval (PySem.Expr.BoolOp PySem.BoolOp.And _ _) _) _ _ _); (fail_if_success (with_reducible show wpAny _ _ _ (EndN _ _ _ _ _ _) _ _)); refine halt_of ?_)))
local macro_rules | `(tactic| walk_at "compareOp Eq ref") => `(tactic| ((with_reducible rename CChkC _ _ _ _ _ _ _ _ => hG9); ((with_reducible rename EqMark _ _ _ => hM9); (refine halt_of ?_))))
set_option Elab.async true
def main.tw12074409190582280863 : Nat := 0
def main.tw11156056980113079860 : Nat := 0
def main.tw16602241572910223693 : Nat := 0
def main.tw14579049591947550094 : Nat := 0
def main.tw12780967964696292293 : Nat := 0
def main.tw14355908859673385093 : Nat := 0
def main.tw14215583792959306523 : Nat := 0
def main.tw8818892033594219708 : Nat := 0
def main.tw6785050993538403870 : Nat := 0
def main.tw18072910330486901160 : Nat := 0
def main.tw16826212616301561204 : Nat := 0
def main.tw1974967905120035322 : Nat := 0
def main.tw16461936056556126171 : Nat := 0
def main.tw2109297985684337612 : Nat := 0
def main.tw12400434520335623248 : Nat := 0
def main.tw3164071578474256198 : Nat := 0
def main.tw2921958311620399285 : Nat := 0
def main.tw14064073609400967072 : Nat := 0
def main.tw14439489856276332995 : Nat := 0
def main.tw13593839371638185640 : Nat := 0
def main.tw12431731261707249289 : Nat := 0
def main.tw9730157408454304684 : Nat := 0
def main.tw6162249291895867263 : Nat := 0
def main.tw18190005008629794160 : Nat := 0
def main.tw7113585516715319716 : Nat := 0
def main.tw10334261112615635914 : Nat := 0
def main.tw6741292078354696603 : Nat := 0
def main.tw16965079339398995527 : Nat := 0
def main.tw9274054859765456524 : Nat := 0
def main.tw12885673836220544336 : Nat := 0
def main.tw9670510015898674028 : Nat := 0
def main.tw4500915450034043215 : Nat := 0
def main.tw2921621734765799159 : Nat := 0
def main.tw12623159325031504133 : Nat := 0
set_option maxRecDepth 100000 in
set_option maxHeartbeats 0 in
theorem main : PySem.Challenge.rw_jb0018_01.Holds := by
  w_on; o_law; k_head; (case hw => w_witness2)
  k_fill
  have cSec : ∀ (prog : Program) (w : World) (p : Program) (lo : List Str) (mean : ExcName → Option Value) (mg mb : SMap), CSec prog w (Mine.main.heap_1_39 w.params) p lo mean mg mb := by
    as_aux_lemma =>
    w_top off
    intro prog w p lo mean mg mb
    intro news G d a0 a1 n sl hG dp un gd cn cs a ccd cl outer A₀ base h₀ L m s Q E B F X N T hk hdp hun hret
    have hv : #[a0, a1][0]? = some a0 := rfl
    refine wpAny_call ?_
    k_dflt cell_enter
    k_steps
    all_goals exact hret _ [] _ _ (by k_asm) (by k_asm) ⟨rfl, rfl⟩
  have cNam : ∀ (prog : Program) (w : World) (p : Program) (lo : List Str) (mean : ExcName → Option Value) (mg mb : SMap), CNam prog w (Mine.main.heap_1_39 w.params) p lo mean mg mb := by
    as_aux_lemma =>
    w_top off
    clear cSec
    intro prog w p lo mean mg mb
    intro news G d a0 a1 n sl hG dp un gd cn cs a ccd cl outer A₀ base h₀ L m s Q E B F X N T hk hdp hun hret
    have hv : #[a0, a1][1]? = some a1 := rfl
    refine wpAny_call ?_
    k_dflt cell_enter
    k_steps
    all_goals exact hret _ [] _ _ (by k_asm) (by k_asm) ⟨rfl, rfl⟩
  have kindF : ∀ w : World, KindF (Mine.main.heap_1_39 w.params) := by
    as_aux_lemma =>
    w_top off
    clear cSec cNam
    intro w
    exact {
      look := fun k hk => match k, hk with
        | 0, _ => ⟨_, _, _, _, by k_is, by k_is⟩ | 1, _ => ⟨_, _, _, _, by k_is, by k_is⟩ | 2, _ => ⟨_, _, _, _, by k_is, by k_is⟩ | 3, _ => ⟨_, _, _, _, by k_is, by k_is⟩ | 4, _ => ⟨_, _, _, _, by k_is, by k_is⟩ | 5, _ => ⟨_, _, _, _, by k_is, by k_is⟩
      pgAm := fun k hk => match k, hk with
        | 0, _ => by k_is | 1, _ => by k_is | 2, _ => by k_is | 3, _ => by k_is | 4, _ => by k_is | 5, _ => by k_is
      pgMu := fun k hk => match k, hk with
        | 0, _ => by k_is | 1, _ => by k_is | 2, _ => by k_is | 3, _ => by k_is | 4, _ => by k_is | 5, _ => by k_is
      pgNs := fun k hk => match k, hk with
        | 0, _ => by k_is | 1, _ => by k_is | 2, _ => by k_is | 3, _ => by k_is | 4, _ => by k_is | 5, _ => by k_is
      hd := fun k hk => match k, hk with
        | 0, _ => by k_is | 1, _ => by k_is | 2, _ => by k_is | 3, _ => by k_is | 4, _ => by k_is | 5, _ => by k_is
      ownAm := fun k hk => match k, hk with
        | 0, _ => by k_is | 1, _ => by k_is | 2, _ => by k_is | 3, _ => by k_is | 4, _ => by k_is | 5, _ => by k_is
      ownMu := fun k hk => match k, hk with
        | 0, _ => by k_is | 1, _ => by k_is | 2, _ => by k_is | 3, _ => by k_is | 4, _ => by k_is | 5, _ => by k_is
      ownNs := fun k hk => match k, hk with
        | 0, _ => by k_is | 1, _ => by k_is | 2, _ => by k_is | 3, _ => by k_is | 4, _ => by k_is | 5, _ => by k_is
      gran := fun k hk => match k, hk with
        | 0, _ => by k_is | 1, _ => by k_is | 2, _ => by k_is | 3, _ => by k_is | 4, _ => by k_is | 5, _ => by k_is
      granGet := fun k hk => match k, hk with
        | 0, _ => by k_is | 1, _ => by k_is | 2, _ => by k_is | 3, _ => by k_is | 4, _ => by k_is | 5, _ => by k_is
      mKey := fun k hk => match k, hk with
        | 0, _ => by k_is | 1, _ => by k_is | 2, _ => by k_is | 3, _ => by k_is | 4, _ => by k_is | 5, _ => by k_is
      mExp := fun k hk => match k, hk with
        | 0, _ => by k_is | 1, _ => by k_is | 2, _ => by k_is | 3, _ => by k_is | 4, _ => by k_is | 5, _ => by k_is
      mEq := fun k hk => match k, hk with
        | 0, _ => by k_is | 1, _ => by k_is | 2, _ => by k_is | 3, _ => by k_is | 4, _ => by k_is | 5, _ => by k_is
      mLt := fun k hk => match k, hk with
        | 0, _ => by k_is | 1, _ => by k_is | 2, _ => by k_is | 3, _ => by k_is | 4, _ => by k_is | 5, _ => by k_is
      mChk := fun k hk => match k, hk with
        | 0, _ => by k_is | 1, _ => by k_is | 2, _ => by k_is | 3, _ => by k_is | 4, _ => by k_is | 5, _ => by k_is
      clsGran := fun k hk => match k, hk with
        | 0, _ => by k_is | 1, _ => by k_is | 2, _ => by k_is | 3, _ => by k_is | 4, _ => by k_is | 5, _ => by k_is
      clsType := fun k hk => match k, hk with
        | 0, _ => by k_is | 1, _ => by k_is | 2, _ => by k_is | 3, _ => by k_is | 4, _ => by k_is | 5, _ => by k_is
      clsReads := fun k hk => match k, hk with
        | 0, _ => by k_is | 1, _ => by k_is | 2, _ => by k_is | 3, _ => by k_is | 4, _ => by k_is | 5, _ => by k_is
      isA := fun k hk => match k, hk with
        | 0, _ => by k_is | 1, _ => by k_is | 2, _ => by k_is | 3, _ => by k_is | 4, _ => by k_is | 5, _ => by k_is
      notFirstS := fun k hk => match k, hk with
        | 0, _ => by k_is | 1, _ => by k_is | 2, _ => by k_is | 3, _ => by k_is | 4, _ => by k_is | 5, _ => by k_is
      notFirstT := fun k hk => match k, hk with
        | 0, _ => by k_is | 1, _ => by k_is | 2, _ => by k_is | 3, _ => by k_is | 4, _ => by k_is | 5, _ => by k_is
      notFirst := fun k hk j hj => match k, hk, j, hj with
        | 0, _, 0, _ => by k_is | 0, _, 1, _ => by k_is | 0, _, 2, _ => by k_is | 0, _, 3, _ => by k_is | 0, _, 4, _ => by k_is | 0, _, 5, _ => by k_is | 1, _, 0, _ => by k_is | 1, _, 1, _ => by k_is | 1, _, 2, _ => by k_is | 1, _, 3, _ => by k_is | 1, _, 4, _ => by k_is | 1, _, 5, _ => by k_is | 2, _, 0, _ => by k_is | 2, _, 1, _ => by k_is | 2, _, 2, _ => by k_is | 2, _, 3, _ => by k_is | 2, _, 4, _ => by k_is | 2, _, 5, _ => by k_is | 3, _, 0, _ => by k_is | 3, _, 1, _ => by k_is | 3, _, 2, _ => by k_is | 3, _, 3, _ => by k_is | 3, _, 4, _ => by k_is | 3, _, 5, _ => by k_is | 4, _, 0, _ => by k_is | 4, _, 1, _ => by k_is | 4, _, 2, _ => by k_is | 4, _, 3, _ => by k_is | 4, _, 4, _ => by k_is | 4, _, 5, _ => by k_is | 5, _, 0, _ => by k_is | 5, _, 1, _ => by k_is | 5, _, 2, _ => by k_is | 5, _, 3, _ => by k_is | 5, _, 4, _ => by k_is | 5, _, 5, _ => by k_is
      fKey := by k_is
      fExp := by k_is
      fEq := by k_is
      fLt := by k_is
      gGa := by k_is
      gHook := by k_is
      gSub := by k_is
      gCls := by k_is
      gEq := by k_is
      gSec := by k_is
      gNam := by k_is
      gSecG := by k_is
      gNamG := by k_is
      gSecT := by k_is
      gNamT := by k_is
    }
  have cExp : ∀ (prog : Program) (w : World) (p : Program) (lo : List Str) (mean : ExcName → Option Value) (mg mb : SMap), CExp prog w (Mine.main.heap_1_39 w.params) p lo mean mg mb := by
    as_aux_lemma =>
    w_top off
    clear cNam
    intro prog w p lo mean mg mb
    have KD := kindF w
    have c1 := cSec prog w p lo mean mg mb
    intro news x k am ti sp hk6 hti hti2 I dp un gd cn cs a ccd cl outer A₀ base h₀ L m s Q E B F X N T hk hdp hun hret
    have hse := secs_le k
    refine wpAny_call ?_
    k_dflt cell_enter
    k_steps
    all_goals exact hret _ [] _ _ (by k_asm) (by k_asm) ⟨rfl, _, rfl⟩
  have cSafe : ∀ (prog : Program) (w : World) (p : Program) (lo : List Str) (mean : ExcName → Option Value) (mg mb : SMap), CSafe prog w (Mine.main.heap_1_39 w.params) p lo mean mg mb := by
    as_aux_lemma =>
    w_top off
    clear cSec cNam kindF cExp
    intro prog w p lo mean mg mb
    intro news v x hv dp un gd cn cs a ccd cl outer A₀ base h₀ L m s Q E B F X N T hk hdp hun hret
    cases hv
    all_goals
      refine wpAny_call ?_
      k_dflt cell_enter
      k_steps
      all_goals exact hret _ [] _ _ (by k_asm) (by k_asm) ⟨rfl, _, rfl⟩
  have cKey : ∀ (prog : Program) (w : World) (p : Program) (lo : List Str) (mean : ExcName → Option Value) (mg mb : SMap), CKey prog w (Mine.main.heap_1_39 w.params) p lo mean mg mb := by
    as_aux_lemma =>
    w_top off
    clear cExp
    intro prog w p lo mean mg mb
    have KD := kindF w
    have c1 := cSec prog w p lo mean mg mb
    have c2 := cNam prog w p lo mean mg mb
    have c3 := cSafe prog w p lo mean mg mb
    intro news x k am ti sp T vs ts n hk6 ham ham2 hti hti2 hsp I hT hp hlen dp un gd cn cs a ccd cl outer A₀ base h₀ L m s Q E B F X N Tp hk hdp hun hret
    refine wpAny_call ?_
    k_dflt cell_enter
    k_steps
    unfold Halt
    refine ⟨T, vs.toArray, _, rfl, rfl, by k_asm, by k_asm, Or.inr ⟨_, hT, rfl, _, rfl⟩, by rw [List.size_toArray, sizeLine_eq]; omega, ?_⟩
    rintro _ ⟨g, rfl⟩
    refine comp_rest (fun v y _ => ∀ x, SafeV v x → ∃ t, y = .str x t) (fun _ h => h) (fun tl => Or.inr ⟨_, List.mem_append.mpr (.inr hT), rfl, _, rfl⟩) ?_ ?_
    · intro v I oI C oC D m₂ ys nw h tk E' hv hC hx F' N' hsub
      obtain ⟨xv, _, hsv⟩ := Paired.mem hp hv
      k_steps
      all_goals exact ⟨_, _, [], rfl, by k_asm, by k_asm, (fun _ _ _ h => nomatch h), fun y hy => by cases SafeV.one hy hsv; exact ⟨_, rfl⟩⟩
    · intro ys tl hy
      unfold LCg.FinE
      intro D h' tk' F' N' o1
      have hst := safe_strs hp hy
      k_steps
      have hl1 := hst.length
      have hl2 : ts.length ≤ 6 := by rw [← Paired.length hp]; exact hlen
      have hyl : ys.length ≤ 6 := by rw [← Paired.length hy]; exact hlen
      k_dflt (refine' add_lists ?F_cKey ?N_cKey ?a_cKey ?b_cKey ?_ ?z_cKey; (case F_cKey => k_asm); (case N_cKey => k_asm); (case a_cKey => exact News.isList (by k_asm) (by k_mem)); (case b_cKey => exact News.isList (by k_asm) (by k_mem)); (case z_cKey => (rw [sizeLine_eq]; simp only [List.length_cons, List.length_nil]; omega)))
      intro h9 F9 N9
      k_steps
      k_dflt (refine' join_listW (ys := ts ++ [txt am, txt ti, nm k]) ?a_cKey ?b_cKey ?c_cKey ?d_cKey ?_; (case a_cKey => exact News.isList (by k_asm) (by k_mem)); (case b_cKey => exact strs_app hst (.cons _ _ (.cons _ _ (.cons _ _ .nil)))); (case c_cKey => decide +kernel); (case d_cKey => exact key_weight hp hk6 ham ham2 hti hti2 hlen))
      intro t9 k9
      generalize hR : Txt.join (Str.ofString "/") (ts ++ [txt am, txt ti, nm k]) = R
      have hRl : R.length ≤ 2000 := by rw [← hR]; exact key_len hp hk6 ham ham2 hti hti2 hlen
      k_steps
      refine' hret _ [] _ _ ?e1_cKey ?e2_cKey ⟨rfl, _, ?e3_cKey⟩
      case e1_cKey => k_asm
      case e3_cKey => rw [Str.empty_append, ← hR]; rfl
      case e2_cKey =>
        refine' cb_drop ?N_cKey ?S_cKey
        case N_cKey => k_asm
        case S_cKey => intro p hp; rw [List.nil_append] at hp; simp [hp]
  have cChk : ∀ (prog : Program) (w : World) (p : Program) (lo : List Str) (mean : ExcName → Option Value) (mg mb : SMap), CChk prog w (Mine.main.heap_1_39 w.params) p lo mean mg mb := by
    as_aux_lemma =>
    w_top off
    clear cExp cSafe cKey
    intro prog w p lo mean mg mb
    have KD := kindF w
    have c1 := cSec prog w p lo mean mg mb
    have c2 := cNam prog w p lo mean mg mb
    intro news k x t hk6 hx dp un gd cn cs a ccd cl outer A₀ base h₀ L m s Q E B F X N Tp hk hdp hun hret
    have hnm := nm_len k
    refine wpAny_call ?_
    k_dflt cell_enter
    k_steps
    refine' hret _ [] _ _ ?e1_cChk ?e2_cChk ⟨rfl, ?e3_cChk⟩
    case e1_cChk => k_asm
    case e3_cChk => rw [Str.empty_append, Bool.false_or]; rfl
    case e2_cChk =>
      refine' cb_drop ?N_cChk ?S_cChk
      case N_cChk => k_asm
      case S_cChk => intro p hp; rw [List.nil_append] at hp; simp [hp]
  have cEq : ∀ (prog : Program) (w : World) (p : Program) (lo : List Str) (mean : ExcName → Option Value) (mg mb : SMap), CEq prog w (Mine.main.heap_1_39 w.params) p lo mean mg mb := by
    as_aux_lemma =>
    w_top off
    clear cSec cNam cExp cSafe cKey cChk
    intro prog w p lo mean mg mb
    have KD := kindF w
    intro news x y k j am ti am' ti' sp sp' hk6 hj6 I I' dp un gd cn cs a ccd cl outer A₀ base h₀ L m s Q E B F X N Tp hk hdp hun hret
    refine wpAny_call ?_
    k_dflt cell_enter
    k_steps
    all_goals exact hret _ [] _ _ (by k_asm) (by k_asm) ⟨rfl, congrArg Value.bool (Bool.eq_iff_iff.mpr (by simp_all))⟩
  have cEqS : ∀ (prog : Program) (w : World) (p : Program) (lo : List Str) (mean : ExcName → Option Value) (mg mb : SMap), CEqS prog w (Mine.main.heap_1_39 w.params) p lo mean mg mb := by
    as_aux_lemma =>
    w_top off
    clear cSec cNam kindF cExp cSafe cKey cChk cEq
    intro prog w p lo mean mg mb
    intro news x z t dp un gd cn cs a ccd cl outer A₀ base h₀ L m s Q E B F X N Tp hk hdp hun hret
    refine wpAny_call ?_
    k_dflt cell_enter
    k_steps
    all_goals exact hret _ [] _ _ (by k_asm) (by k_asm) ⟨rfl, rfl⟩
  have cEqT : ∀ (prog : Program) (w : World) (p : Program) (lo : List Str) (mean : ExcName → Option Value) (mg mb : SMap), CEqT prog w (Mine.main.heap_1_39 w.params) p lo mean mg mb := by
    as_aux_lemma =>
    w_top off
    clear cSec cNam kindF cExp cSafe cKey cChk cEq cEqS
    intro prog w p lo mean mg mb
    intro news x T vs n hT dp un gd cn cs a ccd cl outer A₀ base h₀ L m s Q E B F X N Tp hk hdp hun hret
    refine wpAny_call ?_
    k_dflt cell_enter
    k_steps
    all_goals exact hret _ [] _ _ (by k_asm) (by k_asm) ⟨rfl, rfl⟩
  have cLt : ∀ (prog : Program) (w : World) (p : Program) (lo : List Str) (mean : ExcName → Option Value) (mg mb : SMap), CLt prog w (Mine.main.heap_1_39 w.params) p lo mean mg mb := by
    as_aux_lemma =>
    w_top off
    clear cNam cExp cSafe cKey cChk cEq cEqS cEqT
    intro prog w p lo mean mg mb
    have KD := kindF w
    have c1 := cSec prog w p lo mean mg mb
    intro news x y k j am ti am' ti' sp sp' hk6 hj6 I I' dp un gd cn cs a ccd cl outer A₀ base h₀ L m s Q E B F X N Tp hk hdp hun hret
    refine wpAny_call ?_
    k_dflt cell_enter
    k_steps
    all_goals exact hret _ [] _ _ (by k_asm) (by k_asm) ⟨rfl, rfl⟩
  have cChkC : ∀ (prog : Program) (w : World) (p : Program) (lo : List Str) (mean : ExcName → Option Value) (mg mb : SMap), CChkC prog w (Mine.main.heap_1_39 w.params) p lo mean mg mb := by
    as_aux_lemma =>
    w_top off
    clear cExp cSafe cKey cChk cEq cEqS cEqT cLt
    intro prog w p lo mean mg mb
    have KD := kindF w
    have c1 := cSec prog w p lo mean mg mb
    have c2 := cNam prog w p lo mean mg mb
    intro news k x t hk6 hx dp un gd cn cs a ccd cl outer A₀ base h₀ L m s R B F X N Tp hk hdp hun hret
    have hnm := nm_len k
    k_dflt cell_enter
    k_steps
    refine' (congrFun (congrArg (fun v => R (.ok (.ret (.bool v)))) ?e3_cChkC) _).mpr (hret _ _ ?e1_cChkC ?e2_cChkC)
    case e1_cChkC => k_asm
    case e3_cChkC => rw [Str.empty_append, Bool.false_or]; rfl
    case e2_cChkC =>
      refine' cb_drop ?N_cChkC ?S_cChkC
      case N_cChkC => k_asm
      case S_cChkC => intro p hp; simp [hp]
  have cGrains : ∀ (prog : Program) (w : World) (p : Program) (lo : List Str) (mean : ExcName → Option Value) (mg mb : SMap), CGrains prog w (Mine.main.heap_1_39 w.params) p lo mean mg mb := by
    as_aux_lemma =>
    w_top off
    clear cSec cNam kindF cExp cSafe cKey cChk cEq cEqS cEqT cLt cChkC
    intro prog w p lo mean mg mb
    intro news dp un gd cn cs a ccd cl outer A₀ base h₀ L m s Q E B F X N Tp hk hdp hun hret
    refine wpAny_call ?_
    k_dflt cell_enter
    k_steps
    refine' hret _ [_, _, _, _, _, _, _] _ _ ?e1_cGrains ?e2_cGrains ⟨?e3_cGrains, _, rfl, ?e4_cGrains⟩
    case e1_cGrains => k_asm
    case e2_cGrains => exact (by assumption : News _ _ _ (_ :: _ :: _ :: _ :: _ :: _ :: _ :: news))
    case e3_cGrains =>
      iterate 7 (refine above_cons (by (first | assumption | exact ktn_ltOf (by assumption) | exact ktn_ltOf (And.right (by assumption)) | exact ktn_ltOf (And.right (And.right (by assumption))) | exact ktn_ltOf (And.right (And.right (And.right (by assumption)))) | exact ktn_ltOf (And.right (And.right (And.right (And.right (by assumption))))) | exact ktn_ltOf (And.right (And.right (And.right (And.right (And.right (by assumption)))))) | exact ktn_ltOf (And.right (And.right (And.right (And.right (And.right (And.right (by assumption))))))))) ?_)
      exact above_nil
    case e4_cGrains => exact ⟨[_, _, _, _, _, _], _, .head _, rfl, fun k hk => match k, hk with
        | 0, _ => ⟨_, _, _, _, rfl, by k_mem⟩ | 1, _ => ⟨_, _, _, _, rfl, by k_mem⟩ | 2, _ => ⟨_, _, _, _, rfl, by k_mem⟩
        | 3, _ => ⟨_, _, _, _, rfl, by k_mem⟩ | 4, _ => ⟨_, _, _, _, rfl, by k_mem⟩ | 5, _ => ⟨_, _, _, _, rfl, by k_mem⟩⟩
  have cWords : ∀ (prog : Program) (w : World) (p : Program) (lo : List Str) (mean : ExcName → Option Value) (mg mb : SMap), CWords prog w (Mine.main.heap_1_39 w.params) p lo mean mg mb := by
    as_aux_lemma =>
    w_top off
    clear cSec cNam kindF cExp cSafe cKey cChk cEq cEqS cEqT cLt cChkC cGrains
    intro prog w p lo mean mg mb
    intro news dp un gd cn cs a ccd cl outer A₀ base h₀ L m s Q E B F X N Tp hk hdp hun hret
    refine wpAny_call ?_
    k_dflt cell_enter
    k_steps
    refine' hret _ [_] _ _ ?e1_cWords ?e2_cWords ⟨?e3_cWords, _, rfl, ?e4_cWords⟩
    case e1_cWords => k_asm
    case e2_cWords => exact (by assumption : News _ _ _ (_ :: news))
    case e3_cWords =>
      iterate 1 (refine above_cons (by (first | assumption | exact ktn_ltOf (by assumption) | exact ktn_ltOf (And.right (by assumption)) | exact ktn_ltOf (And.right (And.right (by assumption))) | exact ktn_ltOf (And.right (And.right (And.right (by assumption)))) | exact ktn_ltOf (And.right (And.right (And.right (And.right (by assumption))))) | exact ktn_ltOf (And.right (And.right (And.right (And.right (And.right (by assumption)))))) | exact ktn_ltOf (And.right (And.right (And.right (And.right (And.right (And.right (by assumption))))))))) ?_)
      exact above_nil
    case e4_cWords =>
      refine ⟨_, _, .head _, ?_⟩
      intro v hv
      simp only [List.mem_cons, List.not_mem_nil, or_false] at hv
      rcases hv with rfl | rfl | rfl | rfl | rfl | rfl | rfl | rfl | rfl | rfl | rfl | rfl <;> exact ⟨_, _, rfl, by decide +kernel⟩
  have cPlain : ∀ (prog : Program) (w : World) (p : Program) (lo : List Str) (mean : ExcName → Option Value) (mg mb : SMap), CPlain prog w (Mine.main.heap_1_39 w.params) p lo mean mg mb := by
    as_aux_lemma =>
    w_top off
    clear cSec cNam kindF cExp cSafe cKey cChk cEq cEqS cEqT cLt cChkC cGrains cWords
    intro prog w p lo mean mg mb
    intro news n t dp un gd cn cs a ccd cl outer A₀ base h₀ L m s Q E B F X N Tp hk hdp hun hret
    refine wpAny_call ?_
    k_dflt cell_enter
    k_steps
    refine' hret _ [_] _ _ ?e1_cPlain ?e2_cPlain ⟨?e3_cPlain, ?e4_cPlain⟩
    case e1_cPlain => k_asm
    case e2_cPlain => exact cb_drop (by k_asm : News _ _ _ (_ :: _ :: _ :: news)) (fun p hp => by rcases List.mem_cons.mp hp with rfl | hp; exact .head _; exact .tail _ (.tail _ (.tail _ hp)))
    case e3_cPlain => exact above1 (by (first | assumption | exact ktn_ltOf (by assumption) | exact ktn_ltOf (And.right (by assumption)) | exact ktn_ltOf (And.right (And.right (by assumption))) | exact ktn_ltOf (And.right (And.right (And.right (by assumption)))) | exact ktn_ltOf (And.right (And.right (And.right (And.right (by assumption))))) | exact ktn_ltOf (And.right (And.right (And.right (And.right (And.right (by assumption)))))) | exact ktn_ltOf (And.right (And.right (And.right (And.right (And.right (And.right (by assumption)))))))))
    case e4_cPlain => exact plain_end (by assumption) (by assumption)
  have cIdent : ∀ (prog : Program) (w : World) (p : Program) (lo : List Str) (mean : ExcName → Option Value) (mg mb : SMap), CIdent prog w (Mine.main.heap_1_39 w.params) p lo mean mg mb := by
    as_aux_lemma =>
    w_top off
    clear cSec cNam kindF cExp cSafe cKey cChk cEq cEqS cEqT cLt cChkC cGrains cWords cPlain
    intro prog w p lo mean mg mb
    intro news n t dp un gd cn cs a ccd cl outer A₀ base h₀ L m s Q E B F X N Tp hk hdp hun hret
    refine wpAny_call ?_
    k_dflt cell_enter
    k_steps
    · have hv := id_int n
      generalize n.fmod (10 ^ Int.toNat 30) - 10 ^ Int.toNat 9 = v at hv ⊢
      k_steps
      refine' hret _ [_] _ _ ?e1_cIdent ?e2_cIdent ⟨?e3_cIdent, ?e4_cIdent⟩
      case e1_cIdent => k_asm
      case e2_cIdent => exact (by assumption : News _ _ _ (_ :: news))
      case e3_cIdent => exact above1 (by assumption)
      case e4_cIdent => exact ⟨_, _, _, rfl, _, _, .head _, SafeV.int _ _ hv⟩
    · refine' hret _ [_] _ _ ?e1_cIdent ?e2_cIdent ⟨?e3_cIdent, ?e4_cIdent⟩
      case e1_cIdent => k_asm
      case e2_cIdent => exact (by assumption : News _ _ _ (_ :: news))
      case e3_cIdent => exact above1 (by assumption)
      case e4_cIdent => exact ⟨_, _, _, rfl, _, _, .head _, SafeV.str _ _ (id_text _)⟩
    · have hb := fmod_pos (a := n.fdiv 4) (b := 26) (by decide)
      k_dflt (refine' KBa.make_K ?a_cIdent ?b_cIdent rfl ?c_cIdent (.cons _ _ (.cons _ _ .nil)) ?d_cIdent ?e_cIdent ?_)
      case a_cIdent => k_asm
      case b_cIdent => k_asm
      case c_cIdent => exact News.isList (by k_asm) (by k_mem)
      case d_cIdent => intro z hz; simp only [List.mem_cons, List.not_mem_nil, or_false] at hz; rcases hz with rfl | rfl <;> omega
      case e_cIdent => show 2 ≤ 16777216; decide
      intro h5 t5 k5 F5 N5 _
      k_steps
      refine' hret _ [_] _ _ ?e1_cIdent ?e2_cIdent ⟨?e3_cIdent, ?e4_cIdent⟩
      case e1_cIdent => k_asm
      case e2_cIdent => exact cb_drop (by k_asm : News _ _ _ (_ :: _ :: news)) (fun p hp => by rcases List.mem_cons.mp hp with rfl | hp; exact .head _; exact .tail _ (.tail _ hp))
      case e3_cIdent => exact above1 (by (first | assumption | exact ktn_ltOf (by assumption) | exact ktn_ltOf (And.right (by assumption)) | exact ktn_ltOf (And.right (And.right (by assumption))) | exact ktn_ltOf (And.right (And.right (And.right (by assumption)))) | exact ktn_ltOf (And.right (And.right (And.right (And.right (by assumption))))) | exact ktn_ltOf (And.right (And.right (And.right (And.right (And.right (by assumption)))))) | exact ktn_ltOf (And.right (And.right (And.right (And.right (And.right (And.right (by assumption)))))))))
      case e4_cIdent => exact ⟨_, _, _, rfl, _, _, .head _, id_bytes _⟩
    · refine' hret _ [_] _ _ ?e1_cIdent ?e2_cIdent ⟨?e3_cIdent, ?e4_cIdent⟩
      case e1_cIdent => k_asm
      case e2_cIdent => exact (by assumption : News _ _ _ (_ :: news))
      case e3_cIdent => exact above1 (by assumption)
      case e4_cIdent => exact ⟨_, _, _, rfl, _, _, .head _, SafeV.str _ _ (by decide +kernel)⟩
  have kindG : ∀ w : World, KindG (Mine.main.heap_1_39 w.params) := by
    as_aux_lemma =>
    w_top off
    clear cSec cNam kindF cExp cSafe cKey cChk cEq cEqS cEqT cLt cChkC cGrains cWords cPlain cIdent
    intro w
    exact {
      setattr := fun k hk => match k, hk with
        | 0, _ => by k_is | 1, _ => by k_is | 2, _ => by k_is | 3, _ => by k_is | 4, _ => by k_is | 5, _ => by k_is
      over := fun k hk => match k, hk with
        | 0, _ => by k_is | 1, _ => by k_is | 2, _ => by k_is | 3, _ => by k_is | 4, _ => by k_is | 5, _ => by k_is
      tAm := fun k hk => match k, hk with
        | 0, _ => by k_is | 1, _ => by k_is | 2, _ => by k_is | 3, _ => by k_is | 4, _ => by k_is | 5, _ => by k_is
      tMu := fun k hk => match k, hk with
        | 0, _ => by k_is | 1, _ => by k_is | 2, _ => by k_is | 3, _ => by k_is | 4, _ => by k_is | 5, _ => by k_is
      tNs := fun k hk => match k, hk with
        | 0, _ => by k_is | 1, _ => by k_is | 2, _ => by k_is | 3, _ => by k_is | 4, _ => by k_is | 5, _ => by k_is
      hd := fun k hk => match k, hk with
        | 0, _ => by k_is | 1, _ => by k_is | 2, _ => by k_is | 3, _ => by k_is | 4, _ => by k_is | 5, _ => by k_is
      make := fun k hk => match k, hk with
        | 0, _ => by k_is | 1, _ => by k_is | 2, _ => by k_is | 3, _ => by k_is | 4, _ => by k_is | 5, _ => by k_is
      init := fun k hk => match k, hk with
        | 0, _ => by k_is | 1, _ => by k_is | 2, _ => by k_is | 3, _ => by k_is | 4, _ => by k_is | 5, _ => by k_is
      fInit := by k_is
    }
  have cInit : ∀ (prog : Program) (w : World) (p : Program) (lo : List Str) (mean : ExcName → Option Value) (mg mb : SMap), CInit prog w (Mine.main.heap_1_39 w.params) p lo mean mg mb := by
    as_aux_lemma =>
    w_top off
    clear cSec cNam kindF cExp cSafe cKey cChk cEq cEqS cEqT cLt cChkC cGrains cWords cPlain cIdent
    intro prog w p lo mean mg mb
    have KG := kindG w
    intro news x dx k am v ti sp t1 t2 hk6 hm l1 l2 dp un gd cn cs a ccd cl outer A₀ base h₀ L m s R B F X N Tp hk hdp hun hret
    rcases hm with ⟨rfl, rfl⟩ | ⟨i, ti', rfl, ⟨rfl, rfl⟩ | ⟨rfl, ht1, ht2⟩⟩
    all_goals
      k_dflt cell_enter
      k_steps
      all_goals first
        | exact hret _ _ _ _ (by k_asm) (by k_asm) item_of
        | (exfalso; simp_all; done)
        | (exfalso; simp_all; omega)
  have cItem : ∀ (prog : Program) (w : World) (p : Program) (lo : List Str) (mean : ExcName → Option Value) (mg mb : SMap), CItem prog w (Mine.main.heap_1_39 w.params) p lo mean mg mb := by
    as_aux_lemma =>
    w_top off
    clear cSec cNam kindF cExp cSafe cKey cChk cEq cEqS cEqT cLt cChkC cGrains cWords cPlain cIdent
    intro prog w p lo mean mg mb
    have KG := kindG w
    have c1 := cInit prog w p lo mean mg mb
    intro news k am v ti sp t1 t2 t3 hk6 ham ham2 hm hsp dp un gd cn cs a ccd cl outer A₀ base h₀ L m s Q E B F X N Tp hk hdp hun hret
    refine wpAny_call ?_
    k_dflt cell_enter
    k_steps
    all_goals first
      | ((have e9 : k = 0 := by simp_all <;> omega); subst e9; exact hret _ _ _ _ (by k_asm) (by k_asm) ⟨by assumption, _, rfl, by assumption⟩)
      | ((have e9 : k = 1 := by simp_all <;> omega); subst e9; exact hret _ _ _ _ (by k_asm) (by k_asm) ⟨by assumption, _, rfl, by assumption⟩)
      | ((have e9 : k = 2 := by simp_all <;> omega); subst e9; exact hret _ _ _ _ (by k_asm) (by k_asm) ⟨by assumption, _, rfl, by assumption⟩)
      | ((have e9 : k = 3 := by simp_all <;> omega); subst e9; exact hret _ _ _ _ (by k_asm) (by k_asm) ⟨by assumption, _, rfl, by assumption⟩)
      | ((have e9 : k = 4 := by simp_all <;> omega); subst e9; exact hret _ _ _ _ (by k_asm) (by k_asm) ⟨by assumption, _, rfl, by assumption⟩)
      | ((have e9 : k = 5 := by simp_all <;> omega); subst e9; exact hret _ _ _ _ (by k_asm) (by k_asm) ⟨by assumption, _, rfl, by assumption⟩)
  have cKey0 : ∀ (prog : Program) (w : World) (p : Program) (lo : List Str) (mean : ExcName → Option Value) (mg mb : SMap), CKey0 prog w (Mine.main.heap_1_39 w.params) p lo mean mg mb := by
    as_aux_lemma =>
    w_top off
    clear cExp cKey cChk cEq cEqS cEqT cLt cChkC cGrains cWords cPlain cIdent kindG cInit cItem
    intro prog w p lo mean mg mb
    have KD := kindF w
    have c1 := cSec prog w p lo mean mg mb
    have c2 := cNam prog w p lo mean mg mb
    have c3 := cSafe prog w p lo mean mg mb
    intro news x k am ti sp hk6 ham ham2 hti hti2 hsp I dp un gd cn cs a ccd cl outer A₀ base h₀ L m s Q E B F X N Tp hk hdp hun hret
    refine wpAny_call ?_
    k_dflt cell_enter
    k_steps
    unfold Halt
    have hp : Paired SafeV [] [] := .nil
    have hlen : ([] : List Value).length ≤ 6 := by decide
    rename Frag.In _ _ => X5
    rename Fr _ _ _ _ => F5
    rename News _ _ _ _ => N5
    have S5 := tup_K0 (T := 175) X5 (by k_is)
    refine ⟨175, ([] : List Value).toArray, _, rfl, rfl, F5, N5, Or.inl S5, by decide, ?_⟩
    rintro _ ⟨g, rfl⟩
    refine comp_rest (fun v y _ => ∀ x, SafeV v x → ∃ t, y = .str x t) (fun _ h => h) (fun tl => Or.inl S5) ?_ ?_
    · intro v I oI C oC D m₂ ys nw h tk E' hv
      cases hv
    · intro ys tl hy
      unfold LCg.FinE
      intro D h' tk' F' N' o1
      have hst := safe_strs hp hy
      k_steps
      have hl1 := hst.length
      have hl2 : ([] : List Str).length ≤ 6 := by decide
      have hyl : ys.length ≤ 6 := by rw [← Paired.length hy]; exact hlen
      k_dflt (refine' add_lists ?F_cKey0 ?N_cKey0 ?a_cKey0 ?b_cKey0 ?_ ?z_cKey0; (case F_cKey0 => k_asm); (case N_cKey0 => k_asm); (case a_cKey0 => exact News.isList (by k_asm) (by k_mem)); (case b_cKey0 => exact News.isList (by k_asm) (by k_mem)); (case z_cKey0 => (rw [sizeLine_eq]; simp only [List.length_cons, List.length_nil]; omega)))
      intro h9 F9 N9
      k_steps
      k_dflt (refine' join_listW (ys := [] ++ [txt am, txt ti, nm k]) ?a_cKey0 ?b_cKey0 ?c_cKey0 ?d_cKey0 ?_; (case a_cKey0 => exact News.isList (by k_asm) (by k_mem)); (case b_cKey0 => exact strs_app hst (.cons _ _ (.cons _ _ (.cons _ _ .nil)))); (case c_cKey0 => decide +kernel); (case d_cKey0 => exact key_weight hp hk6 ham ham2 hti hti2 hlen))
      intro t9 k9
      generalize hR : Txt.join (Str.ofString "/") ([] ++ [txt am, txt ti, nm k]) = R
      have hRl : R.length ≤ 2000 := by rw [← hR]; exact key_len hp hk6 ham ham2 hti hti2 hlen
      k_steps
      refine' hret _ [] _ _ ?e1_cKey0 ?e2_cKey0 ⟨rfl, _, ?e3_cKey0⟩
      case e1_cKey0 => k_asm
      case e3_cKey0 => rw [Str.empty_append, ← hR]; rfl
      case e2_cKey0 =>
        refine' cb_drop ?N_cKey0 ?S_cKey0
        case N_cKey0 => k_asm
        case S_cKey0 => intro p hp; rw [List.nil_append] at hp; simp [hp]
  have allC : ∀ (prog : Program) (w : World) (p : Program) (lo : List Str) (mean : ExcName → Option Value) (mg mb : SMap), AllC prog w (Mine.main.heap_1_39 w.params) p lo mean mg mb := fun prog w p lo mean mg mb =>
    ⟨kindF w, kindG w, cSec prog w p lo mean mg mb, cNam prog w p lo mean mg mb, cSafe prog w p lo mean mg mb, cExp prog w p lo mean mg mb, cKey prog w p lo mean mg mb, cKey0 prog w p lo mean mg mb, cChk prog w p lo mean mg mb, cEq prog w p lo mean mg mb, cEqS prog w p lo mean mg mb, cEqT prog w p lo mean mg mb, cLt prog w p lo mean mg mb,
   cGrains prog w p lo mean mg mb, cWords prog w p lo mean mg mb, cPlain prog w p lo mean mg mb, cIdent prog w p lo mean mg mb, cItem prog w p lo mean mg mb⟩
  clear cSec cNam kindF cExp cSafe cKey cChk cEq cEqS cEqT cLt cGrains cWords cPlain cIdent kindG cInit cItem cKey0
  intro w s₀ s₁ mg mb G Y fa o pm cd doc dV kV ho hd hcd hD hmg hg args vals as hpre hlay hrd hwl hlo
  have KX := kIn_of Y
  k_behind G ho hd hcd hD hmg hpre hlay hrd hwl hlo cd
  rename Top _ _ _ _ _ _ => T1
  obtain ⟨KD, KG, cS, cN, cSa, cE, cK, cK0, cCh, cEq, cES, cET, cLt, cGr, cWo, cPl, cId, cIt⟩ := AllC.at (allC Challenge.rw_jb0018_01.row.prog w) T1
  have cCC := CChkC.at (cChkC Challenge.rw_jb0018_01.row.prog w) T1
  clear allC cChkC

  have hgK : Halt (s₁.gens = #[]) := hg
  clear hD hcd hg
  all_goals try k_fold
  k_steps
  unfold Halt
  rename IntsAre _ (List.take _ _) => hIp
  rename News _ _ _ _ => Np
  rename Fr _ _ _ _ => Fp
  have hlp := hIp.length.trans (two_len _ _ _)
  refine LCg.CompSrc.ledger rfl Fp Np (.head _) (by rw [List.size_toArray, hlp, sizeLine_eq]; decide) ?_
  intro g
  refine comp_rest PlainG (fun hs h => h.mono hs) (fun tl => Or.inr ⟨_, List.mem_append.mpr (.inr (.head _)), rfl, _, rfl⟩) ?_ ?_
  · intro v I oI C oC D m₂ ys nw h tk E' hv hC hx F' N' hsub
    obtain ⟨n, t, hv'⟩ := ints_int hIp v hv
    subst hv'
    k_steps
    refine ⟨_, _, _, rfl, by k_asm, by k_asm, by assumption, ?_⟩
    exact ⟨_, _, _, _, _, _, rfl, PlainAt.mono (by assumption) (fun p hp => List.mem_append.mpr (.inl hp))⟩
  intro ys tl hy
  unfold LCg.FinA
  intro Dp hp tkp F1 N1 o1
  obtain ⟨_, _, y0, y1, hws, hys, hP0, hP1⟩ := paired_two hy hlp
  have hP := fun y hy' => paired_right hy y hy'
  clear hy hws hP0 hP1
  generalize hnb : tl ++ _ = nb at N1 hP o1
  have hll : ys.length = 2 := by rw [hys]; rfl
  clear hnb hIp Np Fp hlp
  k_steps
  unfold Halt
  rename News _ _ _ _ => Np
  rename Fr _ _ _ _ => Fp
  refine LCg.CompSrc.ledger rfl Fp Np (.head _) (by rw [List.size_toArray, hll, sizeLine_eq]; decide) ?_
  intro g2
  refine comp_rest ItemG (fun hs h => h.mono hs) (fun tl => Or.inr ⟨_, List.mem_append.mpr (.inr (.head _)), rfl, _, rfl⟩) ?_ ?_
  · intro v I oI C oC D m₂ ys2 nw h tk E' hv hC hx F' N' hsub
    obtain ⟨_, T, k, am, v', ti, sp, e, pl⟩ := hP v hv
    subst e
    have plK := pl
    obtain ⟨t1, t2, t3, n, hm, hk6, ha0, ha2, hmv, hsl⟩ := pl
    have hsub' : ∀ p ∈ nb, p ∈ nw := fun p hp => hsub p (.tail _ hp)
    have N2 : News _ _ _ ((T, _) :: (I, oI) :: (C, oC) :: (D, LCg.lst ys2) :: nw) := cb_drop N' (fun p hp => by
      rcases List.mem_cons.mp hp with rfl | hp
      · exact .tail _ (.tail _ (.tail _ (hsub' _ hm)))
      · exact hp)
    clear N'
    k_steps
    refine ⟨_, _, _, rfl, by k_asm, cb_drop (by k_asm : News _ _ _ (_ ++ (T, _) :: _)) (fun p hp => ?_), (fun q hq p hp => (by assumption : Above _ _) q (.tail _ hq) p hp), ?_⟩
    · rcases List.mem_append.mp hp with hp | hp
      · exact List.mem_append.mpr (.inl hp)
      · exact List.mem_append.mpr (.inr (.tail _ hp))
    · exact ⟨T, _, k, am, v', ti, sp, rfl, rfl, (plK.mono hsub').mono (fun p hp => List.mem_append.mpr (.inr hp)), ItemAt.mono (by assumption) (fun p hp => List.mem_append.mpr (.inl hp))⟩
  intro ys2 tl2 hy2
  unfold LCg.FinA
  intro Di hi tki F2 N2 o2
  obtain ⟨_, _, _, _, e1, e2, hI0, hI1⟩ := paired_two hy2 hll
  obtain ⟨T0, x0, k0, am0, v0, ti0, sp0, q1, q2, pl0, it0⟩ := hI0
  obtain ⟨T1', x1, k1, am1, v1, ti1, sp1, q3, q4, pl1, it1⟩ := hI1
  subst q1; subst q2; subst q3; subst q4; subst e1; subst e2
  clear hy2 hP hys hll
  generalize hnb2 : tl2 ++ _ = nb2 at N2 pl0 pl1 it0 it1
  have hmp : (Dp, LCg.lst [.ref T0, .ref T1']) ∈ nb2 := by rw [← hnb2]; exact List.mem_append.mpr (.inr (.head _))
  clear hnb2 o2 Np Fp o1
  k_steps
  unfold Halt
  rename IntsAre _ (List.take _ _) => hIr
  rename News _ _ _ _ => Np
  rename Fr _ _ _ _ => Fp
  have hl6 := Nat.le_trans (Nat.le_of_eq hIr.length) (six_len _ _)
  refine LCg.CompSrc.ledger rfl Fp Np (.head _) (by rw [List.size_toArray, sizeLine_eq]; omega) ?_
  intro g3
  refine comp_rest RowG (fun hs h => h.mono hs) (fun tl => Or.inr ⟨_, List.mem_append.mpr (.inr (.head _)), rfl, _, rfl⟩) ?_ ?_
  · intro v I oI C oC D m₂ ys nw h tk E' hv hC hx F' N' hsub
    obtain ⟨n, t, hv'⟩ := ints_int hIr v hv
    subst hv'
    k_steps
    refine ⟨_, _, _, rfl, by k_asm, by k_asm, by assumption, ?_⟩
    exact ⟨_, _, _, rfl, RowAt.mono (by assumption) (fun p hp => List.mem_append.mpr (.inl hp))⟩
  intro ys3 tl3 hy3
  unfold LCg.FinA
  intro Dr hr tkr F3 N3 o3
  have hy6 : ys3.length ≤ 6 := by rw [← Paired.length hy3]; exact hl6
  obtain ⟨R, hR, hRow⟩ := rows_of (fun y hy => by obtain ⟨_, h⟩ := paired_right hy3 y hy; exact h)
  generalize hnb3 : tl3 ++ _ = nb3 at N3 hRow
  have hin : ∀ p ∈ (Di, LCg.lst [.ref x0, .ref x1]) :: nb2, p ∈ nb3 := fun p hp => by rw [← hnb3]; exact List.mem_append.mpr (.inr (.tail _ hp))
  have it0' := it0.mono (fun p hp => hin p (.tail _ hp))
  have it1' := it1.mono (fun p hp => hin p (.tail _ hp))
  obtain ⟨ta1, ta2, ta3, na, hm0, hk0, ha0, ha0', hmv0, hsl0⟩ := pl0.mono (fun p hp => hin p (.tail _ hp))
  obtain ⟨tb1, tb2, tb3, nb', hm1, hk1, ha1, ha1', hmv1, hsl1⟩ := pl1.mono (fun p hp => hin p (.tail _ hp))
  have hRl : R.length ≤ 6 := by rw [hR, List.length_map] at hy6; exact hy6
  have NF : News _ _ _ ((Dr, LCg.lst ys3) :: (Di, LCg.lst [.ref x0, .ref x1]) :: (Dp, LCg.lst [.ref T0, .ref T1']) :: (T0, _) :: (T1', _) :: nb3) := cb_drop N3 (fun p hp => by
    simp only [List.mem_cons] at hp
    rcases hp with rfl | rfl | rfl | rfl | rfl | hp
    · exact .head _
    · exact .tail _ (hin _ (.head _))
    · exact .tail _ (hin _ (.tail _ hmp))
    · exact .tail _ hm0
    · exact .tail _ hm1
    · exact .tail _ hp)
  have hU : ∀ r ∈ R, ∀ r' ∈ R, r.1 = r'.1 → r'.2.1 = r.2.1 ∧ r'.2.2 = r.2.2 := fun r hr r' hr' e => RowAt.one NF ((hRow r' hr').mono (fun p hp => by repeat (first | exact hp | refine List.mem_cons_of_mem _ ?_))) (e ▸ (hRow r hr).mono (fun p hp => by repeat (first | exact hp | refine List.mem_cons_of_mem _ ?_)))
  have hSafe : ∀ r ∈ R, SafeV r.2.1 r.2.2 := fun r hr => by obtain ⟨_, _, _, h⟩ := hRow r hr; exact h
  subst hR
  clear hy3 hnb3 hin it0 it1 pl0 pl1 hm0 hm1 hmp hIr Np Fp hl6 hy6 o3 N3
  have hti0 := hmv0.le
  have hti1 := hmv1.le
  have hz0 : 0 ≤ ti0 := by omega
  have hz1 : 0 ≤ ti1 := by omega
  have hy0 := hti0.2
  have hy1 := hti1.2
  have hnm0 := nm_len k0
  have hnm1 := nm_len k1
  have hPS := rows_safe hSafe
  have hPl : (R.map (fun r => r.2.1)).length ≤ 6 := by rw [List.length_map]; exact hRl
  k_steps
  unfold Halt
  refine toks_mono (fun y => ∃ t, y = .int ti0 t) ?_ ?_
  · rcases hmv0 with ⟨q1, q2⟩ | ⟨i, t, q1, ⟨q2, q3⟩ | ⟨q2, q3, q4⟩⟩
    · subst q1; subst q2
      k_steps
      all_goals exact ⟨⟨_, rfl⟩, _, rfl⟩
    · subst q1; subst q2; subst q3
      k_steps
      all_goals exact ⟨⟨_, rfl⟩, _, rfl⟩
    · subst q1; subst q2
      have hne : i ≠ 0 := by omega
      k_steps
      all_goals first | exact ⟨⟨_, rfl⟩, _, rfl⟩ | (exfalso; omega) | trace_state
  intro _ _ hq
  obtain ⟨tti, q1⟩ := hq
  subst q1
  k_steps
  unfold Halt
  rename News _ _ _ _ => Np
  rename Fr _ _ _ _ => Fp
  refine LCg.CompSrc.ledger rfl Fp Np (by k_mem) (by rw [List.size_toArray, List.length_map, sizeLine_eq]; omega) ?_
  intro g4
  refine comp_rest (fun v y _ => ∀ r ∈ R, v = .ref r.1 → ∃ t, y = .str (Str.ofString "/" ++ r.2.2) t) (fun _ h => h) (fun tl => Or.inr ⟨_, List.mem_append.mpr (.inr (by k_mem)), rfl, _, rfl⟩) ?_ ?_
  · intro v I oI C oC D m₂ ys2 nw h tk E' hv hC hx F' N' hsub
    obtain ⟨r, hr, hvr⟩ := List.mem_map.mp hv
    subst hvr
    obtain ⟨tr, nr, hmr, hsv⟩ := hRow r hr
    have hxl := hsv.len
    have hmr' := sub_mem hsub hmr (fun p hp => by repeat (first | exact hp | refine List.mem_cons_of_mem _ ?_))
    have N2 : News _ _ _ ((r.1, _) :: (I, oI) :: (C, oC) :: (D, LCg.lst ys2) :: nw) := cb_drop N' (fun p hp => by
      rcases List.mem_cons.mp hp with rfl | hp
      · exact .tail _ (.tail _ (.tail _ hmr'))
      · exact hp)
    clear N'
    k_steps
    refine ⟨_, _, [], rfl, by k_asm, cb_drop (by k_asm : News _ _ _ ((r.1, _) :: _)) (fun p hp => .tail _ hp), (fun _ _ _ h => nomatch h), fun r' hr' e => ?_⟩
    injection e with e
    have e2 := hU r hr r' hr' e
    exact ⟨_, by rw [e2.2]⟩
  intro ys tl hy
  have hst := rows_strs hy (fun _ h => h)
  clear hy
  unfold LCg.FinE
  intro D h' tk' F' N' o1
  have N3 : News _ _ _ ((D, LCg.lst ys) :: _) := cb_drop N' (fun p hp => by
    rcases List.mem_cons.mp hp with rfl | hp
    · exact .head _
    · exact .tail _ (List.mem_append.mpr (.inr hp)))
  clear N'
  k_steps
  unfold Halt
  k_dflt (refine' join_listW (ys := R.map (fun r => Str.ofString "/" ++ r.2.2)) ?ja ?jb ?jc ?jd ?_; (case ja => exact News.isList (by k_asm) (by k_mem)); (case jb => exact hst); (case jc => decide +kernel); (case jd => exact rows_weight2 hSafe hRl))
  intro t9 k9
  generalize hJ : Txt.join (Str.ofString "") (R.map (fun r => Str.ofString "/" ++ r.2.2)) = J
  have hJl : J.length ≤ 2000 := by rw [← hJ]; exact rows_len hSafe hRl
  k_steps
  unfold Halt
  rename News _ _ _ _ => Np
  rename Fr _ _ _ _ => Fp
  refine LCg.CompSrc.ledger rfl Fp Np (by k_mem) (by rw [List.size_toArray, List.length_map, sizeLine_eq]; omega) ?_
  intro g4
  refine comp_rest (fun v y _ => ∀ r ∈ R, v = .ref r.1 → y = r.2.1) (fun _ h => h) (fun tl => Or.inr ⟨_, List.mem_append.mpr (.inr (by k_mem)), rfl, _, rfl⟩) ?_ ?_
  · intro v I oI C oC D m₂ ys2 nw h tk E' hv hC hx F' N' hsub
    obtain ⟨r, hr, hvr⟩ := List.mem_map.mp hv
    subst hvr
    obtain ⟨tr, nr, hmr, hsv⟩ := hRow r hr
    have hxl := hsv.len
    have hmr' := sub_mem hsub hmr (fun p hp => by repeat (first | exact hp | refine List.mem_cons_of_mem _ ?_))
    have N2 : News _ _ _ ((r.1, _) :: (I, oI) :: (C, oC) :: (D, LCg.lst ys2) :: nw) := cb_drop N' (fun p hp => by
      rcases List.mem_cons.mp hp with rfl | hp
      · exact .tail _ (.tail _ (.tail _ hmr'))
      · exact hp)
    clear N'
    k_steps
    refine ⟨_, _, [], rfl, by k_asm, cb_drop (by k_asm : News _ _ _ ((r.1, _) :: _)) (fun p hp => .tail _ hp), (fun _ _ _ h => nomatch h), fun r' hr' e => ?_⟩
    injection e with e
    have e2 := hU r hr r' hr' e
    exact e2.1.symm
  intro ys tl hy
  have hys := rows_vals hy (fun _ h => h)
  subst hys
  clear hy
  unfold LCg.FinE
  intro D h' tk' F' N' o1
  have N3 : News _ _ _ ((D, LCg.lst (R.map (fun r => r.2.1))) :: _) := cb_drop N' (fun p hp => by
    rcases List.mem_cons.mp hp with rfl | hp
    · exact .head _
    · exact .tail _ (List.mem_append.mpr (.inr hp)))
  clear N'
  k_steps
  unfold Halt
  rename WordsAt _ _ => hW
  rename News _ _ _ _ => Np
  rename Fr _ _ _ _ => Fp
  obtain ⟨ws, nw0, hmw, hww⟩ := hW
  have N4 : News _ _ _ ((_, ({ cls := .type "list", data := .seq (List.toArray ws) nw0 } : Obj)) :: _) := cb_drop Np (fun p hp => by
     rcases List.mem_cons.mp hp with rfl | hp
     · exact List.mem_append.mpr (.inl hmw)
     · exact List.mem_append.mpr (.inr hp))
  clear Np
  refine iter_listUnr rfl Fp N4 (.head _) rfl rfl (fun I hI => words_loop (.head _) (fun p hp => Nat.ne_of_lt (hI p hp)) ?_ ?_ ws hww)
  · intro z tz it h tk hzl hit F' N'
    k_steps
    exact ⟨rfl, _, _, rfl, by k_asm, cb_drop (by k_asm : News _ _ _ _) (fun p hp => by repeat (first | exact hp | refine List.mem_cons_of_mem _ ?_))⟩
  intro oW h tk F' N'
  k_steps
  unfold Halt
  rename News _ _ _ _ => Np
  rename Fr _ _ _ _ => Fp
  refine UnrEnd.intro Fp Np ((Dr, LCg.lst (R.map (fun r => Value.ref r.1))) :: (Di, LCg.lst [.ref x0, .ref x1]) :: (Dp, LCg.lst [.ref T0, .ref T1']) :: (T0, _) :: (T1', _) :: nb3) (fun p hp => by repeat (first | exact hp | refine List.mem_cons_of_mem _ ?_)) ?_ ?_
  · rename Dr < _ ∧ Di < _ ∧ Dp < _ ∧ T0 < _ ∧ T1' < _ ∧ AllLt _ nb3 => l1
    obtain ⟨a1, a2, a3, a4, a5, a6⟩ := l1
    intro p hp
    simp only [List.mem_cons] at hp
    rcases hp with rfl | rfl | rfl | rfl | rfl | hp
    · exact Nat.ne_of_lt a1
    · exact Nat.ne_of_lt a2
    · exact Nat.ne_of_lt a3
    · exact Nat.ne_of_lt a4
    · exact Nat.ne_of_lt a5
    · exact Nat.ne_of_lt (ktn_ltOf a6 p hp)
  clear Np Fp
  k_steps
  unfold Halt
  refine toks_mono (fun y => ∃ t, y = .int ti1 t) ?_ ?_
  · rcases hmv1 with ⟨q1, q2⟩ | ⟨i, t, q1, ⟨q2, q3⟩ | ⟨q2, q3, q4⟩⟩
    · subst q1; subst q2
      k_steps
      all_goals exact ⟨⟨_, rfl⟩, _, rfl⟩
    · subst q1; subst q2; subst q3
      k_steps
      all_goals exact ⟨⟨_, rfl⟩, _, rfl⟩
    · subst q1; subst q2
      have hne : i ≠ 0 := by omega
      k_steps
      all_goals first | exact ⟨⟨_, rfl⟩, _, rfl⟩ | (exfalso; omega) | trace_state
  intro _ _ hq
  obtain ⟨tti, q1⟩ := hq
  subst q1
  k_steps
  unfold Halt
  rename News _ _ _ _ => Np
  rename Fr _ _ _ _ => Fp
  refine LCg.CompSrc.ledger rfl Fp Np (by k_mem) (by rw [List.size_toArray, List.length_map, sizeLine_eq]; omega) ?_
  intro g4
  refine comp_rest (fun v y _ => ∀ r ∈ R, v = .ref r.1 → ∃ t, y = .str (Str.ofString "/" ++ r.2.2) t) (fun _ h => h) (fun tl => Or.inr ⟨_, List.mem_append.mpr (.inr (by k_mem)), rfl, _, rfl⟩) ?_ ?_
  · intro v I oI C oC D m₂ ys2 nw h tk E' hv hC hx F' N' hsub
    obtain ⟨r, hr, hvr⟩ := List.mem_map.mp hv
    subst hvr
    obtain ⟨tr, nr, hmr, hsv⟩ := hRow r hr
    have hxl := hsv.len
    have hmr' := sub_mem hsub hmr (fun p hp => by repeat (first | exact hp | refine List.mem_cons_of_mem _ ?_))
    have N2 : News _ _ _ ((r.1, _) :: (I, oI) :: (C, oC) :: (D, LCg.lst ys2) :: nw) := cb_drop N' (fun p hp => by
      rcases List.mem_cons.mp hp with rfl | hp
      · exact .tail _ (.tail _ (.tail _ hmr'))
      · exact hp)
    clear N'
    k_steps
    refine ⟨_, _, [], rfl, by k_asm, cb_drop (by k_asm : News _ _ _ ((r.1, _) :: _)) (fun p hp => .tail _ hp), (fun _ _ _ h => nomatch h), fun r' hr' e => ?_⟩
    injection e with e
    have e2 := hU r hr r' hr' e
    exact ⟨_, by rw [e2.2]⟩
  intro ys tl hy
  have hst := rows_strs hy (fun _ h => h)
  clear hy
  unfold LCg.FinE
  intro D h' tk' F' N' o1
  have N3 : News _ _ _ ((D, LCg.lst ys) :: _) := cb_drop N' (fun p hp => by
    rcases List.mem_cons.mp hp with rfl | hp
    · exact .head _
    · exact .tail _ (List.mem_append.mpr (.inr hp)))
  clear N'
  k_steps
  unfold Halt
  k_dflt (refine' join_listW (ys := R.map (fun r => Str.ofString "/" ++ r.2.2)) ?ja ?jb ?jc ?jd ?_; (case ja => exact News.isList (by k_asm) (by k_mem)); (case jb => exact hst); (case jc => decide +kernel); (case jd => exact rows_weight2 hSafe hRl))
  intro t9 k9
  generalize hJ : Txt.join (Str.ofString "") (R.map (fun r => Str.ofString "/" ++ r.2.2)) = J
  have hJl : J.length ≤ 2000 := by rw [← hJ]; exact rows_len hSafe hRl
  k_steps
  unfold Halt
  rename News _ _ _ _ => Np
  rename Fr _ _ _ _ => Fp
  refine LCg.CompSrc.ledger rfl Fp Np (by k_mem) (by rw [List.size_toArray, List.length_map, sizeLine_eq]; omega) ?_
  intro g4
  refine comp_rest (fun v y _ => ∀ r ∈ R, v = .ref r.1 → y = r.2.1) (fun _ h => h) (fun tl => Or.inr ⟨_, List.mem_append.mpr (.inr (by k_mem)), rfl, _, rfl⟩) ?_ ?_
  · intro v I oI C oC D m₂ ys2 nw h tk E' hv hC hx F' N' hsub
    obtain ⟨r, hr, hvr⟩ := List.mem_map.mp hv
    subst hvr
    obtain ⟨tr, nr, hmr, hsv⟩ := hRow r hr
    have hxl := hsv.len
    have hmr' := sub_mem hsub hmr (fun p hp => by repeat (first | exact hp | refine List.mem_cons_of_mem _ ?_))
    have N2 : News _ _ _ ((r.1, _) :: (I, oI) :: (C, oC) :: (D, LCg.lst ys2) :: nw) := cb_drop N' (fun p hp => by
      rcases List.mem_cons.mp hp with rfl | hp
      · exact .tail _ (.tail _ (.tail _ hmr'))
      · exact hp)
    clear N'
    k_steps
    refine ⟨_, _, [], rfl, by k_asm, cb_drop (by k_asm : News _ _ _ ((r.1, _) :: _)) (fun p hp => .tail _ hp), (fun _ _ _ h => nomatch h), fun r' hr' e => ?_⟩
    injection e with e
    have e2 := hU r hr r' hr' e
    exact e2.1.symm
  intro ys tl hy
  have hys := rows_vals hy (fun _ h => h)
  subst hys
  clear hy
  unfold LCg.FinE
  intro D h' tk' F' N' o1
  have N3 : News _ _ _ ((D, LCg.lst (R.map (fun r => r.2.1))) :: _) := cb_drop N' (fun p hp => by
    rcases List.mem_cons.mp hp with rfl | hp
    · exact .head _
    · exact .tail _ (List.mem_append.mpr (.inr hp)))
  clear N'
  k_steps
  unfold Halt
  rename WordsAt _ _ => hW
  rename News _ _ _ _ => Np
  rename Fr _ _ _ _ => Fp
  obtain ⟨ws, nw0, hmw, hww⟩ := hW
  have N4 : News _ _ _ ((_, ({ cls := .type "list", data := .seq (List.toArray ws) nw0 } : Obj)) :: _) := cb_drop Np (fun p hp => by
     rcases List.mem_cons.mp hp with rfl | hp
     · exact List.mem_append.mpr (.inl hmw)
     · exact List.mem_append.mpr (.inr hp))
  clear Np
  refine iter_listUnr rfl Fp N4 (.head _) rfl rfl (fun I hI => words_loop (.head _) (fun p hp => Nat.ne_of_lt (hI p hp)) ?_ ?_ ws hww)
  · intro z tz it h tk hzl hit F' N'
    k_steps
    exact ⟨rfl, _, _, rfl, by k_asm, cb_drop (by k_asm : News _ _ _ _) (fun p hp => by repeat (first | exact hp | refine List.mem_cons_of_mem _ ?_))⟩
  intro oW h tk F' N'
  k_steps
  unfold Halt
  rename News _ _ _ _ => Np
  rename Fr _ _ _ _ => Fp
  refine UnrEnd.intro Fp Np ((Dr, LCg.lst (R.map (fun r => Value.ref r.1))) :: (Di, LCg.lst [.ref x0, .ref x1]) :: (Dp, LCg.lst [.ref T0, .ref T1']) :: (T0, _) :: (T1', _) :: nb3) (fun p hp => by repeat (first | exact hp | refine List.mem_cons_of_mem _ ?_)) ?_ ?_
  · rename Dr < _ ∧ Di < _ ∧ Dp < _ ∧ T0 < _ ∧ T1' < _ ∧ AllLt _ nb3 => l1
    obtain ⟨a1, a2, a3, a4, a5, a6⟩ := l1
    intro p hp
    simp only [List.mem_cons] at hp
    rcases hp with rfl | rfl | rfl | rfl | rfl | hp
    · exact Nat.ne_of_lt a1
    · exact Nat.ne_of_lt a2
    · exact Nat.ne_of_lt a3
    · exact Nat.ne_of_lt a4
    · exact Nat.ne_of_lt a5
    · exact Nat.ne_of_lt (ktn_ltOf a6 p hp)
  clear Np Fp
  k_steps
  unfold Halt
  rename News _ _ _ _ => Np
  rename Fr _ _ _ _ => Fp
  refine news_mono2 Fp Np (fun y => y = .bool (decide (am0 = am1) && decide (k0 = k1) && decide (ti0 = ti1))) ?_ ?_
  · k_steps
    · unfold Halt
      refine toks_mono2 (fun y => ∃ t, y = .int ti0 t) ?_ ?_
      · rcases hmv0 with ⟨q1, q2⟩ | ⟨i, t, q1, ⟨q2, q3⟩ | ⟨q2, q3, q4⟩⟩
        · subst q1; subst q2
          k_steps
          all_goals exact ⟨⟨_, rfl⟩, _, rfl⟩
        · subst q1; subst q2; subst q3
          k_steps
          all_goals exact ⟨⟨_, rfl⟩, _, rfl⟩
        · subst q1; subst q2
          have hne : i ≠ 0 := by omega
          k_steps
          all_goals first | exact ⟨⟨_, rfl⟩, _, rfl⟩ | (exfalso; omega)
      intro _ _ hq
      obtain ⟨_, q1⟩ := hq
      subst q1
      k_steps
      unfold Halt
      refine toks_mono2 (fun y => ∃ t, y = .int ti1 t) ?_ ?_
      · rcases hmv1 with ⟨q1, q2⟩ | ⟨i, t, q1, ⟨q2, q3⟩ | ⟨q2, q3, q4⟩⟩
        · subst q1; subst q2
          k_steps
          all_goals exact ⟨⟨_, rfl⟩, _, rfl⟩
        · subst q1; subst q2; subst q3
          k_steps
          all_goals exact ⟨⟨_, rfl⟩, _, rfl⟩
        · subst q1; subst q2
          have hne : i ≠ 0 := by omega
          k_steps
          all_goals first | exact ⟨⟨_, rfl⟩, _, rfl⟩ | (exfalso; omega)
      intro _ _ hq
      obtain ⟨_, q1⟩ := hq
      subst q1
      k_steps
      refine ⟨val_yes (by with_reducible assumption), _, _, rfl, by k_asm, cb_drop (by k_asm : News _ _ _ _) (fun p hp => by repeat (first | exact hp | refine List.mem_cons_of_mem _ ?_))⟩
    · refine ⟨val_no (by with_reducible assumption), _, _, rfl, by k_asm, cb_drop (by k_asm : News _ _ _ _) (fun p hp => by repeat (first | exact hp | refine List.mem_cons_of_mem _ ?_))⟩
  intro y h tk q1 F' N'
  subst q1
  clear Fp Np
  k_steps
  unfold Halt
  rename News _ _ _ _ => Np
  rename Fr _ _ _ _ => Fp
  refine LCg.CompSrc.ledger rfl Fp Np (by k_mem) (by rw [List.size_toArray, List.length_map, sizeLine_eq]; omega) ?_
  intro g5
  refine comp_rest (fun v y _ => ∀ r ∈ R, v = .ref r.1 → ∃ t, y = .str r.2.2 t) (fun _ h => h) (fun tl => Or.inr ⟨_, List.mem_append.mpr (.inr (by k_mem)), rfl, _, rfl⟩) ?_ ?_
  · intro v I oI C oC D m₂ ys2 nw h tk E' hv hC hx F' N' hsub
    obtain ⟨r, hr, hvr⟩ := List.mem_map.mp hv
    subst hvr
    obtain ⟨tr, nr, hmr, hsv⟩ := hRow r hr
    have hxl := hsv.len
    have hmr' := sub_mem hsub hmr (fun p hp => by repeat (first | exact hp | refine List.mem_cons_of_mem _ ?_))
    have N2 : News _ _ _ ((r.1, _) :: (I, oI) :: (C, oC) :: (D, LCg.lst ys2) :: nw) := cb_drop N' (fun p hp => by
      rcases List.mem_cons.mp hp with rfl | hp
      · exact .tail _ (.tail _ (.tail _ hmr'))
      · exact hp)
    clear N'
    k_steps
    refine ⟨_, _, [], rfl, by k_asm, cb_drop (by k_asm : News _ _ _ ((r.1, _) :: _)) (fun p hp => .tail _ hp), (fun _ _ _ h => nomatch h), fun r' hr' e => ?_⟩
    injection e with e
    have e2 := hU r hr r' hr' e
    exact ⟨_, by rw [e2.2]⟩
  intro ysA tl hy
  have hsA := rows_strs hy (fun _ h => h)
  clear hy
  unfold LCg.FinE
  intro D h' tk' F' N' o1
  have N3 : News _ _ _ ((D, LCg.lst ysA) :: _) := cb_drop N' (fun p hp => by
    rcases List.mem_cons.mp hp with rfl | hp
    · exact .head _
    · exact .tail _ (List.mem_append.mpr (.inr hp)))
  clear N'
  k_steps
  unfold Halt
  rename News _ _ _ _ => Np
  rename Fr _ _ _ _ => Fp
  refine LCg.CompSrc.ledger rfl Fp Np (by k_mem) (by rw [List.size_toArray, List.length_map, sizeLine_eq]; omega) ?_
  intro g5
  refine comp_rest (fun v y _ => ∀ r ∈ R, v = .ref r.1 → ∃ t, y = .str r.2.2 t) (fun _ h => h) (fun tl => Or.inr ⟨_, List.mem_append.mpr (.inr (by k_mem)), rfl, _, rfl⟩) ?_ ?_
  · intro v I oI C oC D m₂ ys2 nw h tk E' hv hC hx F' N' hsub
    obtain ⟨r, hr, hvr⟩ := List.mem_map.mp hv
    subst hvr
    obtain ⟨tr, nr, hmr, hsv⟩ := hRow r hr
    have hxl := hsv.len
    have hmr' := sub_mem hsub hmr (fun p hp => by repeat (first | exact hp | refine List.mem_cons_of_mem _ ?_))
    have N2 : News _ _ _ ((r.1, _) :: (I, oI) :: (C, oC) :: (D, LCg.lst ys2) :: nw) := cb_drop N' (fun p hp => by
      rcases List.mem_cons.mp hp with rfl | hp
      · exact .tail _ (.tail _ (.tail _ hmr'))
      · exact hp)
    clear N'
    k_steps
    refine ⟨_, _, [], rfl, by k_asm, cb_drop (by k_asm : News _ _ _ ((r.1, _) :: _)) (fun p hp => .tail _ hp), (fun _ _ _ h => nomatch h), fun r' hr' e => ?_⟩
    injection e with e
    have e2 := hU r hr r' hr' e
    exact ⟨_, by rw [e2.2]⟩
  intro ysB tl hy
  have hsB := rows_strs hy (fun _ h => h)
  have hM : EqMark ysA ysB _ := ⟨hsA, hsB⟩
  clear hsA hsB
  clear hy
  unfold LCg.FinE
  intro D h' tk' F' N' o1
  have N3 : News _ _ _ ((D, LCg.lst ysB) :: _) := cb_drop N' (fun p hp => by
    rcases List.mem_cons.mp hp with rfl | hp
    · exact .head _
    · exact .tail _ (List.mem_append.mpr (.inr hp)))
  clear N'
  refine eq_texts (News.isList N3 (by k_mem)) (News.isList N3 (by k_mem)) hM.1 hM.2 (by ktr_units) ?_
  exact goodW_bool F' (halt_of hgK) (law_raises _) (law_post _)
end Mine

theorem PySem.Challenge.cw_jb0018_01_holds : PySem.Challenge.rw_jb0018_01.Holds := by
  exact Mine.main
